import JvmDerived
import JvmDerived.Pilot.@@N@@Statement
import JvmDerived.Pilot.@@N@@Code
set_option linter.unusedVariables false
set_option linter.unusedSimpArgs false

namespace Jvm.Pilot.@@N@@
open Jvm Jvm.ClassFile Sem Op Lib Jvm.Free Jvm.Stand Jvm.LawKit Jvm.RoadKit Bundle Jvm.Pilot.@@N@@.Jvm.D
/-! the walk's own frame: a goal that goes forward step by step -/
def Go (p : Program) (e : Env) (below : List Frame) (P : State → Outcome → Prop) (A : State) : Prop := ∃ s₂ o, Steps p.tables e below A s₂ ∧ P s₂ o
theorem go {p : Program} {e : Env} {below : List Frame} {P : State → Outcome → Prop} {A B : State} (h : ∀ t, Steps p.tables e below B t → Steps p.tables e below A t) (k : Go p e below P B) : Go p e below P A := by
  obtain ⟨t, o, a, b⟩ := k
  exact ⟨t, o, h t a, b⟩
def PP (s : State) (below : List Frame) (Q : Option Value → Heap → List Loc → Prop) (ce sl : Nat) (s₂ : State) (o : Outcome) : Prop := s₂.status = .running ∧ Ended s₂ below o ∧ ∃ v L, o = .returned v ∧ Q v s₂.heap L ∧ FrameEnd s o s₂ L ce sl
theorem leaf {p : Program} {e : Env} {s A : State} {below : List Frame} {Q : Option Value → Heap → List Loc → Prop} {ce sl : Nat} {T : State} {v : Option Value} {locs : List Loc} {cells slots : Nat}
    (h : ∃ fs, Steps p.tables e below A (T.setFrames fs) ∧ (T.setFrames fs).status = .running ∧ Ended (T.setFrames fs) below (.returned v) ∧ s.WarmedH (T.setFrames fs).vm ∧ s.sameButNew ({ T.setFrames fs with vm := s.vm } : State) locs cells slots)
    (hQ : Q v T.heap locs) (hc : cells ≤ ce) (hs : slots ≤ sl) : Go p e below (PP s below Q ce sl) A := by
  obtain ⟨fs, h1, h2, h3, h4, h5⟩ := h
  exact ⟨_, _, h1, h2, h3, v, locs, rfl, hQ, ⟨_, rfl⟩, h4, h5.mono hc hs⟩
theorem retI {p : Program} {l : Launch} {e : Env} {R : Room} {s : State} {m : MethodId} {args : Array Value} {below : List Frame} {meth : Method} {c : Code} {T : State} {locs : List Loc} {cells slots : Nat} (X : Stand p l e R s m args below meth c T locs cells slots) (hx : p.tables.exec = Jvm.exec) {pc : Nat} {Ls : Array Slot} {z : Int32} {rest : List Value} (hret : meth.sig.returnType = some .int) (hd : decode c.code pc = .ok (.ireturn, 1)) {fs : List Frame}
    (hl : ∀ (f : JFrame) (acts : List Action), f.method = m → f.locked = none → f.entered = [] → (doReturn e (T.setTop f) acts (some (.int z))).1 = T.setFrames fs) : Steps p.tables e below (T.setTop (mkF m pc Ls (.int z :: rest))) (T.setFrames fs) :=
  retOut X hx hret rfl (Or.inl ⟨rfl, Or.inl rfl, z, rfl⟩) hd hl
theorem retJ {p : Program} {l : Launch} {e : Env} {R : Room} {s : State} {m : MethodId} {args : Array Value} {below : List Frame} {meth : Method} {c : Code} {T : State} {locs : List Loc} {cells slots : Nat} (X : Stand p l e R s m args below meth c T locs cells slots) (hx : p.tables.exec = Jvm.exec) {pc : Nat} {Ls : Array Slot} {z : Int64} {rest : List Value} (hret : meth.sig.returnType = some .long) (hd : decode c.code pc = .ok (.lreturn, 1)) {fs : List Frame}
    (hl : ∀ (f : JFrame) (acts : List Action), f.method = m → f.locked = none → f.entered = [] → (doReturn e (T.setTop f) acts (some (.long z))).1 = T.setFrames fs) : Steps p.tables e below (T.setTop (mkF m pc Ls (.long z :: rest))) (T.setFrames fs) :=
  retOut X hx hret rfl (Or.inr (Or.inl ⟨rfl, rfl, z, rfl⟩)) hd hl
theorem retA {p : Program} {l : Launch} {e : Env} {R : Room} {s : State} {m : MethodId} {args : Array Value} {below : List Frame} {meth : Method} {c : Code} {T : State} {locs : List Loc} {cells slots : Nat} (X : Stand p l e R s m args below meth c T locs cells slots) (hx : p.tables.exec = Jvm.exec) {pc : Nat} {Ls : Array Slot} {w : Value} {t : FieldType} {rest : List Value} (hret : meth.sig.returnType = some t) (ht : t.isReference = true) (hw : w.isRef = true) (hn : narrow t w = w) (hd : decode c.code pc = .ok (.areturn, 1)) {fs : List Frame}
    (hl : ∀ (f : JFrame) (acts : List Action), f.method = m → f.locked = none → f.entered = [] → (doReturn e (T.setTop f) acts (some w)).1 = T.setFrames fs) : Steps p.tables e below (T.setTop (mkF m pc Ls (w :: rest))) (T.setFrames fs) :=
  retOut X hx hret hn (Or.inr (Or.inr (Or.inr (Or.inr ⟨rfl, ht, hw⟩)))) hd hl
theorem own_psel {Z s : State} {a0 args : Array Value} {y : MethodName} {n : Nat} (hZ : Z.Warmed39 s.vm) (hi : (Jvm.Cond.instantiable y.cls n).before a0 Z = true) (hp : (Jvm.Cond.privateMethod y).before a0 Z = true) (hinst : (Jvm.Cond.instanceMethod y).before a0 Z = true) (hy : y.cls ≠ "java/lang/invoke/MethodHandle" ∧ y.cls ≠ "java/lang/invoke/VarHandle") : (Jvm.Cond.selects y.cls y y).before args s = true := by
  have hi' : (Jvm.Cond.instantiable y.cls n).before args s = true := mvT hZ hi
  obtain ⟨c, k, h1, h2, h3, h4, h5, h6⟩ := Cond.instantiable_spec hi'
  have h7 : k.isInterface = false := by
    cases hq : k.isInterface
    · rfl
    · rw [hq] at h4; simp at h4
  exact selects_self_of_private h1 h2 h7 (Cond.privateMethod_at (mvP hZ hp (args := args))) (mvT hZ hinst) hy
def PPW (s : State) (below : List Frame) (Q : Option Value → Heap → List Loc → Prop) (ce sl : Nat) (s₂ : State) (o : Outcome) : Prop := s₂.status = .running ∧ Ended s₂ below o ∧ ∃ v L, o = .returned v ∧ Q v s₂.heap L ∧ ReturnedEndW s o s₂ L ce sl
theorem endW_mono {s t : State} {o : Outcome} {L : List Loc} {k n k' n' : Nat} (h : ReturnedEndW s o t L k n) (hk : k ≤ k') (hn : n ≤ n') : ReturnedEndW s o t L k' n' := ⟨h.1, h.2.1, h.2.2.1, h.2.2.2.mono hk hn⟩
theorem leafW {p : Program} {e : Env} {s A : State} {below : List Frame} {Q : Option Value → Heap → List Loc → Prop} {ce sl : Nat} {T : State} {v : Option Value} {locs : List Loc} {cells slots : Nat}
    (h : ∃ fs, Steps p.tables e below A (T.setFrames fs) ∧ (T.setFrames fs).status = .running ∧ Ended (T.setFrames fs) below (.returned v) ∧ ReturnedEndW s (.returned v) (T.setFrames fs) locs cells slots)
    (hQ : Q v T.heap locs) (hc : cells ≤ ce) (hs : slots ≤ sl) : Go p e below (PPW s below Q ce sl) A := by
  obtain ⟨fs, h1, h2, h3, h4⟩ := h
  exact ⟨_, _, h1, h2, h3, v, locs, rfl, hQ, endW_mono h4 hc hs⟩
def PPH (Z : State) (EL : List (String × Nat)) (s : State) (below : List Frame) (Q : Option Value → Heap → List Loc → Prop) (ce sl : Nat) (s₂ : State) (o : Outcome) : Prop := s₂.status = .running ∧ Ended s₂ below o ∧ ∃ v L, o = .returned v ∧ Q v s₂.heap L ∧ CHr Z EL s.vm s.heap s₂.vm s₂.heap ∧ ReturnedEndW s o s₂ L ce sl
theorem leafH {Z : State} {EL : List (String × Nat)} {p : Program} {e : Env} {s A : State} {below : List Frame} {Q : Option Value → Heap → List Loc → Prop} {ce sl : Nat} {T : State} {v : Option Value} {locs : List Loc} {cells slots : Nat}
    (h : ∃ fs, Steps p.tables e below A (T.setFrames fs) ∧ (T.setFrames fs).status = .running ∧ Ended (T.setFrames fs) below (.returned v) ∧ ReturnedEndW s (.returned v) (T.setFrames fs) locs cells slots)
    (hQ : Q v T.heap locs) (hR : CHr Z EL s.vm s.heap T.vm T.heap) (hc : cells ≤ ce) (hs : slots ≤ sl) : Go p e below (PPH Z EL s below Q ce sl) A := by
  obtain ⟨fs, h1, h2, h3, h4⟩ := h
  exact ⟨_, _, h1, h2, h3, v, locs, rfl, hQ, hR, endW_mono h4 hc hs⟩
theorem coldZ {Z s : State} {vm0 vm1 : Vm} {n : Nat} (hZ : Z.Warmed39 (s.setVm vm0).vm) (h2 : (s.setVm vm0).Since vm1 n) : Z.Warmed39 (s.setVm vm1).vm := State.Warmed39.trans (t := s.setVm vm0) hZ h2.1
theorem coldO {s : State} {vm0 vm1 : Vm} {n : Nat} {own : String} {c : ClassId} (hown : (s.setVm vm0).vm.findClass own = some c) (h2 : (s.setVm vm0).Since vm1 n) : (s.setVm vm1).vm.findClass own = some c := by
  rw [show (s.setVm vm1).vm = vm1 from rfl, h2.1.alike.findClass]; exact hown
/-! a truth as Java's int -/
def bz (c : Prop) [Decidable c] : Int32 := if c then 1 else 0
theorem bz_t {c : Prop} [Decidable c] (h : c) : bz c = 1 := if_pos h
theorem bz_f {c : Prop} [Decidable c] (h : ¬ c) : bz c = 0 := if_neg h
theorem bz_ne {c : Prop} [Decidable c] (h : c) : ¬ (bz c = 0) := by rw [bz_t h]; decide
theorem bz_nf {c : Prop} [Decidable c] (h : ¬ c) : ¬ (bz c = 1) := by rw [bz_f h]; decide
theorem bz_congr {c d : Prop} [Decidable c] [Decidable d] (h : c ↔ d) : bz c = bz d := by by_cases q : c; rw [bz_t q, bz_t (h.mp q)]; rw [bz_f q, bz_f (fun z => q (h.mpr z))]
theorem bz_nar (c : Prop) [Decidable c] : nar .boolean (bz c) = bz c := by by_cases q : c; rw [bz_t q]; rfl; rw [bz_f q]; rfl

def own_b (x : Int32) : Int32 := nar .byte (x.toInt8.toInt32)
def own_s (x : Int32) : Int32 := ((x.toUInt32 >>> ((7 : Int32) &&& 31).toUInt32).toInt32)
def own_w : Nat → Int32 → Int32 → List Int32 → List Int32
  | 0, j, v, xs => xs.set j.toNatClampNeg (own_b v)
  | k + 1, j, v, xs => if v < (128 : Int32) then xs.set j.toNatClampNeg (own_b v) else own_w k (j + (1 : Int32)) (own_s v) (xs.set j.toNatClampNeg (own_b (v ||| (128 : Int32))))
def own_r : Nat → Int32 → Int32 → Int32
  | 0, j, v => j + (1 : Int32)
  | k + 1, j, v => if v < (128 : Int32) then j + (1 : Int32) else own_r k (j + (1 : Int32)) (own_s v)
def own_want (p a len n f : Int32) : Int32 := if (p - a) < (0 : Int32) then f else if (p - a) < len then (if (p - a) < (len - (1 : Int32)) then (((((n.toUInt32 >>> (((7 : Int32) * (p - a)) &&& 31).toUInt32).toInt32) &&& (127 : Int32)) ||| (128 : Int32)).toInt8.toInt32) else ((((n.toUInt32 >>> (((7 : Int32) * (p - a)) &&& 31).toUInt32).toInt32) &&& (127 : Int32)).toInt8.toInt32)) else f
theorem own_map (xs : List Int32) (i : Nat) : (xs.map Value.int).getD i (.int (0 : Int32)) = .int (xs.getD i 0) := by
  simp only [List.getD_eq_getElem?_getD, List.getElem?_map]
  cases xs[i]? <;> rfl
theorem own_inc (p : Int32) (h : p.toInt < 100) : (p + (1 : Int32)).toInt = p.toInt + 1 := by
  have h1 := c_iadd p 1
  have h2 := rng32 (p + 1)
  have h3 := rng32 p
  have q : (1 : Int32).toInt = 1 := by decide
  rw [q] at h1
  omega
theorem own_j {p j : Int32} (h : 0 ≤ p.toInt ∧ p.toInt ≤ 3) (t : Nat) (ht : t ≤ 4) (e : j.toInt = p.toInt + t) : ¬ j < 0 ∧ j < (10 : Int32) := by
  have q : (10 : Int32).toInt = 10 := by decide
  have z : (0 : Int32).toInt = 0 := by decide
  rw [Int32.lt_iff_toInt_lt, Int32.lt_iff_toInt_lt, q, z]
  omega
theorem own_jn {p j : Int32} (h : 0 ≤ p.toInt ∧ p.toInt ≤ 3) (t : Nat) (ht : t ≤ 4) (e : j.toInt = p.toInt + t) : j.toNatClampNeg < 10 := by
  have := nat_of (own_j h t ht e).1
  omega
theorem own_at (p : Int32) : 0 ≤ (p &&& (3 : Int32)).toInt ∧ (p &&& (3 : Int32)).toInt ≤ 3 := by
  have := c_mask p 3 2 (by decide) (by decide)
  omega
theorem own_at4 (p : Int32) : (p &&& (3 : Int32)) = (0 : Int32) ∨ (p &&& (3 : Int32)) = (1 : Int32) ∨ (p &&& (3 : Int32)) = (2 : Int32) ∨ (p &&& (3 : Int32)) = (3 : Int32) := by
  have := c_mask p 3 2 (by decide) (by decide)
  have q0 : (0 : Int32).toInt = 0 := by decide
  have q1 : (1 : Int32).toInt = 1 := by decide
  have q2 : (2 : Int32).toInt = 2 := by decide
  have q3 : (3 : Int32).toInt = 3 := by decide
  simp only [← Int32.toInt_inj, q0, q1, q2, q3]
  omega
theorem own_sInt (x : Int32) (h : 0 ≤ x.toInt) : (own_s x).toInt = x.toInt / 128 := by
  have := c_iushr x 7 7 (by decide) (by decide)
  have r := rng32 x
  unfold own_s
  rw [this]
  omega
theorem own_last (p : Int32) (h : 0 ≤ p.toInt) : ((((((((p.toUInt32 >>> ((7 : Int32) &&& 31).toUInt32).toInt32).toUInt32 >>> ((7 : Int32) &&& 31).toUInt32).toInt32).toUInt32 >>> ((7 : Int32) &&& 31).toUInt32).toInt32).toUInt32 >>> ((7 : Int32) &&& 31).toUInt32).toInt32) < (128 : Int32) := by
  show own_s (own_s (own_s (own_s p))) < (128 : Int32)
  have r := rng32 p
  have h1 := own_sInt p h
  have h2 := own_sInt (own_s p) (by omega)
  have h3 := own_sInt (own_s (own_s p)) (by omega)
  have h4 := own_sInt (own_s (own_s (own_s p))) (by omega)
  have q : (128 : Int32).toInt = 128 := by decide
  rw [Int32.lt_iff_toInt_lt, q]
  omega
theorem own_nn0 (p q : Int32) : 0 ≤ (((p &&& (2147483647 : Int32)).toUInt32 >>> ((q &&& (31 : Int32)) &&& 31).toUInt32).toInt32).toInt := by
  have h := c_mask p 2147483647 31 (by decide) (by decide)
  by_cases k0 : (q &&& (31 : Int32)).toBitVec.toNat % 32 = 0
  · have e : (((p &&& (2147483647 : Int32)).toUInt32 >>> ((q &&& (31 : Int32)) &&& 31).toUInt32).toInt32) = (p &&& (2147483647 : Int32)) := by
      have e1 : ((q &&& (31 : Int32)) &&& 31) = (0 : Int32) := by
        have hm := c_mask (q &&& (31 : Int32)) 31 5 (by decide) (by decide)
        have hm2 := c_mask q 31 5 (by decide) (by decide)
        rw [← Int32.toInt_inj]
        have hz : (0 : Int32).toInt = 0 := by decide
        rw [hz, hm]
        have hb : (q &&& (31 : Int32)).toInt = ((q &&& (31 : Int32)).toBitVec.toNat : Int) := by
          have := Int32.toInt_toBitVec (q &&& (31 : Int32))
          rw [← this]
          have hlt : (q &&& (31 : Int32)).toBitVec.toNat < 2 ^ 31 := by
            rw [Int32.toBitVec_and, BitVec.toNat_and]
            exact Nat.lt_of_le_of_lt Nat.and_le_right (by decide)
          rw [BitVec.toInt_eq_toNat_of_lt (by omega)]
        omega
      rw [e1]
      rw [← Int32.toBitVec_inj]
      simp
    rw [e]; omega
  · have := c_iushr (p &&& (2147483647 : Int32)) (q &&& (31 : Int32)) _ rfl (Nat.pos_of_ne_zero k0)
    rw [this]
    exact Int.ediv_nonneg (Int.emod_nonneg _ (by decide)) (Int.natCast_nonneg _)

theorem own_lev (n : Int32) (hn : 0 ≤ n.toInt) : ((n < (128 : Int32) ↔ n < (128 : Int32)) ∧ ((own_s n) < (128 : Int32) ↔ n < (16384 : Int32)) ∧ ((own_s (own_s n)) < (128 : Int32) ↔ n < (2097152 : Int32)) ∧ ((own_s (own_s (own_s n))) < (128 : Int32) ↔ n < (268435456 : Int32))) := by
  have r := rng32 n
  have h1 := own_sInt n hn
  have h2 := own_sInt (own_s n) (by omega)
  have h3 := own_sInt (own_s (own_s n)) (by omega)
  have q0 : (128 : Int32).toInt = 128 := by decide
  have q1 : (16384 : Int32).toInt = 16384 := by decide
  have q2 : (2097152 : Int32).toInt = 2097152 := by decide
  have q3 : (268435456 : Int32).toInt = 268435456 := by decide
  simp only [Int32.lt_iff_toInt_lt, q0, q1, q2, q3]
  refine ⟨trivial, ⟨fun q => ?_, fun q => ?_⟩, ⟨fun q => ?_, fun q => ?_⟩, ⟨fun q => ?_, fun q => ?_⟩⟩ <;> omega
theorem own_fin (n a v : Int32) (hn : 0 ≤ n.toInt) (hv : v = (if n < (128 : Int32) then (1 : Int32) else (if n < (16384 : Int32) then (2 : Int32) else (if n < (2097152 : Int32) then (3 : Int32) else (if n < (268435456 : Int32) then (4 : Int32) else (5 : Int32)))))) : own_r 4 a n = a + v := by
  obtain ⟨e0, e1, e2, e3⟩ := own_lev n hn
  simp only [own_r, e0, e1, e2, e3, hv]
  have hs : ∀ x y z : Int32, x + y + z = x + (y + z) := fun x y z => Int32.add_assoc x y z
  by_cases c0 : n < (128 : Int32)
  · simp only [if_pos c0]
  · simp only [if_neg c0]
    by_cases c1 : n < (16384 : Int32)
    · simp only [if_pos c1]; rw [hs]; rfl
    · simp only [if_neg c1]
      by_cases c2 : n < (2097152 : Int32)
      · simp only [if_pos c2]; rw [hs, hs]; rfl
      · simp only [if_neg c2]
        by_cases c3 : n < (268435456 : Int32)
        · simp only [if_pos c3]; rw [hs, hs, hs]; rfl
        · simp only [if_neg c3]; rw [hs, hs, hs, hs]; rfl
theorem own_nnar (x : Int32) : nar .byte (x.toInt8.toInt32) = x.toInt8.toInt32 := by
  show x.toInt8.toInt32.toInt8.toInt32 = _
  simp
theorem own_hi (x : Int32) : own_b (x ||| (128 : Int32)) = ((x &&& (127 : Int32)) ||| (128 : Int32)).toInt8.toInt32 := by
  unfold own_b
  rw [own_nnar]
  congr 1
  rw [← Int8.toBitVec_inj]
  simp only [Int32.toBitVec_toInt8, Int32.toBitVec_or, Int32.toBitVec_and]
  apply BitVec.eq_of_getLsbD_eq
  intro i hi
  rcases (by omega : i = 0 ∨ i = 1 ∨ i = 2 ∨ i = 3 ∨ i = 4 ∨ i = 5 ∨ i = 6 ∨ i = 7) with rfl | rfl | rfl | rfl | rfl | rfl | rfl | rfl <;> simp [BitVec.getLsbD_signExtend]
theorem own_lo (x : Int32) (h0 : 0 ≤ x.toInt) (h : x < (128 : Int32)) : own_b x = (x &&& (127 : Int32)).toInt8.toInt32 := by
  unfold own_b
  rw [own_nnar]
  have e : x &&& (127 : Int32) = x := by
    have := c_mask x 127 7 (by decide) (by decide)
    rw [Int32.lt_iff_toInt_lt] at h
    have q : (128 : Int32).toInt = 128 := by decide
    rw [← Int32.toInt_inj, this]
    omega
  rw [e]
theorem own_sh0 (n : Int32) (hn : 0 ≤ n.toInt) : n = ((n.toUInt32 >>> ((0 : Int32) &&& 31).toUInt32).toInt32) := by
  rw [← Int32.toBitVec_inj]
  simp
theorem own_sh1 (n : Int32) (hn : 0 ≤ n.toInt) : (own_s n) = ((n.toUInt32 >>> ((7 : Int32) &&& 31).toUInt32).toInt32) := by
  have r := rng32 n
  have k0 := own_sInt n hn
  
  have e := c_iushr n 7 7 (by decide) (by decide)
  rw [← Int32.toInt_inj, e]
  omega
theorem own_sh2 (n : Int32) (hn : 0 ≤ n.toInt) : (own_s (own_s n)) = ((n.toUInt32 >>> ((14 : Int32) &&& 31).toUInt32).toInt32) := by
  have r := rng32 n
  have k0 := own_sInt n hn
  have k1 := own_sInt (own_s n) (by omega)
  have e := c_iushr n 14 14 (by decide) (by decide)
  rw [← Int32.toInt_inj, e]
  omega
theorem own_sh3 (n : Int32) (hn : 0 ≤ n.toInt) : (own_s (own_s (own_s n))) = ((n.toUInt32 >>> ((21 : Int32) &&& 31).toUInt32).toInt32) := by
  have r := rng32 n
  have k0 := own_sInt n hn
  have k1 := own_sInt (own_s n) (by omega)
  have k2 := own_sInt (own_s (own_s n)) (by omega)
  have e := c_iushr n 21 21 (by decide) (by decide)
  rw [← Int32.toInt_inj, e]
  omega
theorem own_sh4 (n : Int32) (hn : 0 ≤ n.toInt) : (own_s (own_s (own_s (own_s n)))) = ((n.toUInt32 >>> ((28 : Int32) &&& 31).toUInt32).toInt32) := by
  have r := rng32 n
  have k0 := own_sInt n hn
  have k1 := own_sInt (own_s n) (by omega)
  have k2 := own_sInt (own_s (own_s n)) (by omega)
  have k3 := own_sInt (own_s (own_s (own_s n))) (by omega)
  have e := c_iushr n 28 28 (by decide) (by decide)
  rw [← Int32.toInt_inj, e]
  omega
theorem own_ok0 (n a v y : Int32) (hn : 0 ≤ n.toInt) (ha : a = (0 : Int32) ∨ a = (1 : Int32) ∨ a = (2 : Int32) ∨ a = (3 : Int32)) (hv : v = (if n < (128 : Int32) then (1 : Int32) else (if n < (16384 : Int32) then (2 : Int32) else (if n < (2097152 : Int32) then (3 : Int32) else (if n < (268435456 : Int32) then (4 : Int32) else (5 : Int32)))))) : ((own_w 4 a n [(nar .byte (y.toInt8.toInt32)), (nar .byte (y.toInt8.toInt32)), (nar .byte (y.toInt8.toInt32)), (nar .byte (y.toInt8.toInt32)), (nar .byte (y.toInt8.toInt32)), (nar .byte (y.toInt8.toInt32)), (nar .byte (y.toInt8.toInt32)), (nar .byte (y.toInt8.toInt32)), (nar .byte (y.toInt8.toInt32)), (nar .byte (y.toInt8.toInt32))]).getD (0 : Int32).toNatClampNeg 0) = own_want (0 : Int32) a v n (y.toInt8.toInt32) := by
  obtain ⟨e0, e1, e2, e3⟩ := own_lev n hn
  have r := rng32 n
  have k1 := own_sInt n hn
  have k2 := own_sInt (own_s n) (by omega)
  have k3 := own_sInt (own_s (own_s n)) (by omega)
  have k4 := own_sInt (own_s (own_s (own_s n))) (by omega)
  simp only [own_w, e0, e1, e2, e3, hv]
  by_cases c0 : n < (128 : Int32)
  · simp only [if_pos c0]
    rcases ha with rfl | rfl | rfl | rfl
    · exact Eq.trans (show _ = own_b n from rfl) ((own_lo n hn (e0.mpr c0)).trans (by rw [own_want, if_neg (by decide), if_pos (by decide), if_neg (by decide)]; exact congrArg (fun z => (z &&& (127 : Int32)).toInt8.toInt32) (own_sh0 n hn)))
    · exact Eq.trans (show _ = nar .byte (y.toInt8.toInt32) from rfl) ((own_nnar y).trans (if_pos (by decide)).symm)
    · exact Eq.trans (show _ = nar .byte (y.toInt8.toInt32) from rfl) ((own_nnar y).trans (if_pos (by decide)).symm)
    · exact Eq.trans (show _ = nar .byte (y.toInt8.toInt32) from rfl) ((own_nnar y).trans (if_pos (by decide)).symm)
  · simp only [if_neg c0]
    by_cases c1 : n < (16384 : Int32)
    · simp only [if_pos c1]
      rcases ha with rfl | rfl | rfl | rfl
      · exact Eq.trans (show _ = own_b (n ||| (128 : Int32)) from rfl) ((own_hi n).trans (by rw [own_want, if_neg (by decide), if_pos (by decide), if_pos (by decide)]; exact congrArg (fun z => ((z &&& (127 : Int32)) ||| (128 : Int32)).toInt8.toInt32) (own_sh0 n hn)))
      · exact Eq.trans (show _ = nar .byte (y.toInt8.toInt32) from rfl) ((own_nnar y).trans (if_pos (by decide)).symm)
      · exact Eq.trans (show _ = nar .byte (y.toInt8.toInt32) from rfl) ((own_nnar y).trans (if_pos (by decide)).symm)
      · exact Eq.trans (show _ = nar .byte (y.toInt8.toInt32) from rfl) ((own_nnar y).trans (if_pos (by decide)).symm)
    · simp only [if_neg c1]
      by_cases c2 : n < (2097152 : Int32)
      · simp only [if_pos c2]
        rcases ha with rfl | rfl | rfl | rfl
        · exact Eq.trans (show _ = own_b (n ||| (128 : Int32)) from rfl) ((own_hi n).trans (by rw [own_want, if_neg (by decide), if_pos (by decide), if_pos (by decide)]; exact congrArg (fun z => ((z &&& (127 : Int32)) ||| (128 : Int32)).toInt8.toInt32) (own_sh0 n hn)))
        · exact Eq.trans (show _ = nar .byte (y.toInt8.toInt32) from rfl) ((own_nnar y).trans (if_pos (by decide)).symm)
        · exact Eq.trans (show _ = nar .byte (y.toInt8.toInt32) from rfl) ((own_nnar y).trans (if_pos (by decide)).symm)
        · exact Eq.trans (show _ = nar .byte (y.toInt8.toInt32) from rfl) ((own_nnar y).trans (if_pos (by decide)).symm)
      · simp only [if_neg c2]
        by_cases c3 : n < (268435456 : Int32)
        · simp only [if_pos c3]
          rcases ha with rfl | rfl | rfl | rfl
          · exact Eq.trans (show _ = own_b (n ||| (128 : Int32)) from rfl) ((own_hi n).trans (by rw [own_want, if_neg (by decide), if_pos (by decide), if_pos (by decide)]; exact congrArg (fun z => ((z &&& (127 : Int32)) ||| (128 : Int32)).toInt8.toInt32) (own_sh0 n hn)))
          · exact Eq.trans (show _ = nar .byte (y.toInt8.toInt32) from rfl) ((own_nnar y).trans (if_pos (by decide)).symm)
          · exact Eq.trans (show _ = nar .byte (y.toInt8.toInt32) from rfl) ((own_nnar y).trans (if_pos (by decide)).symm)
          · exact Eq.trans (show _ = nar .byte (y.toInt8.toInt32) from rfl) ((own_nnar y).trans (if_pos (by decide)).symm)
        · simp only [if_neg c3]
          rcases ha with rfl | rfl | rfl | rfl
          · exact Eq.trans (show _ = own_b (n ||| (128 : Int32)) from rfl) ((own_hi n).trans (by rw [own_want, if_neg (by decide), if_pos (by decide), if_pos (by decide)]; exact congrArg (fun z => ((z &&& (127 : Int32)) ||| (128 : Int32)).toInt8.toInt32) (own_sh0 n hn)))
          · exact Eq.trans (show _ = nar .byte (y.toInt8.toInt32) from rfl) ((own_nnar y).trans (if_pos (by decide)).symm)
          · exact Eq.trans (show _ = nar .byte (y.toInt8.toInt32) from rfl) ((own_nnar y).trans (if_pos (by decide)).symm)
          · exact Eq.trans (show _ = nar .byte (y.toInt8.toInt32) from rfl) ((own_nnar y).trans (if_pos (by decide)).symm)
theorem own_ok1 (n a v y : Int32) (hn : 0 ≤ n.toInt) (ha : a = (0 : Int32) ∨ a = (1 : Int32) ∨ a = (2 : Int32) ∨ a = (3 : Int32)) (hv : v = (if n < (128 : Int32) then (1 : Int32) else (if n < (16384 : Int32) then (2 : Int32) else (if n < (2097152 : Int32) then (3 : Int32) else (if n < (268435456 : Int32) then (4 : Int32) else (5 : Int32)))))) : ((own_w 4 a n [(nar .byte (y.toInt8.toInt32)), (nar .byte (y.toInt8.toInt32)), (nar .byte (y.toInt8.toInt32)), (nar .byte (y.toInt8.toInt32)), (nar .byte (y.toInt8.toInt32)), (nar .byte (y.toInt8.toInt32)), (nar .byte (y.toInt8.toInt32)), (nar .byte (y.toInt8.toInt32)), (nar .byte (y.toInt8.toInt32)), (nar .byte (y.toInt8.toInt32))]).getD (1 : Int32).toNatClampNeg 0) = own_want (1 : Int32) a v n (y.toInt8.toInt32) := by
  obtain ⟨e0, e1, e2, e3⟩ := own_lev n hn
  have r := rng32 n
  have k1 := own_sInt n hn
  have k2 := own_sInt (own_s n) (by omega)
  have k3 := own_sInt (own_s (own_s n)) (by omega)
  have k4 := own_sInt (own_s (own_s (own_s n))) (by omega)
  simp only [own_w, e0, e1, e2, e3, hv]
  by_cases c0 : n < (128 : Int32)
  · simp only [if_pos c0]
    rcases ha with rfl | rfl | rfl | rfl
    · exact Eq.trans (show _ = nar .byte (y.toInt8.toInt32) from rfl) ((own_nnar y).trans (((if_neg (by decide)).trans (if_neg (by decide))).symm))
    · exact Eq.trans (show _ = own_b n from rfl) ((own_lo n hn (e0.mpr c0)).trans (by rw [own_want, if_neg (by decide), if_pos (by decide), if_neg (by decide)]; exact congrArg (fun z => (z &&& (127 : Int32)).toInt8.toInt32) (own_sh0 n hn)))
    · exact Eq.trans (show _ = nar .byte (y.toInt8.toInt32) from rfl) ((own_nnar y).trans (if_pos (by decide)).symm)
    · exact Eq.trans (show _ = nar .byte (y.toInt8.toInt32) from rfl) ((own_nnar y).trans (if_pos (by decide)).symm)
  · simp only [if_neg c0]
    by_cases c1 : n < (16384 : Int32)
    · simp only [if_pos c1]
      rcases ha with rfl | rfl | rfl | rfl
      · exact Eq.trans (show _ = own_b (own_s n) from rfl) ((own_lo (own_s n) (by omega) (e1.mpr c1)).trans (by rw [own_want, if_neg (by decide), if_pos (by decide), if_neg (by decide), own_sh1 n hn]; rfl))
      · exact Eq.trans (show _ = own_b (n ||| (128 : Int32)) from rfl) ((own_hi n).trans (by rw [own_want, if_neg (by decide), if_pos (by decide), if_pos (by decide)]; exact congrArg (fun z => ((z &&& (127 : Int32)) ||| (128 : Int32)).toInt8.toInt32) (own_sh0 n hn)))
      · exact Eq.trans (show _ = nar .byte (y.toInt8.toInt32) from rfl) ((own_nnar y).trans (if_pos (by decide)).symm)
      · exact Eq.trans (show _ = nar .byte (y.toInt8.toInt32) from rfl) ((own_nnar y).trans (if_pos (by decide)).symm)
    · simp only [if_neg c1]
      by_cases c2 : n < (2097152 : Int32)
      · simp only [if_pos c2]
        rcases ha with rfl | rfl | rfl | rfl
        · exact Eq.trans (show _ = own_b ((own_s n) ||| (128 : Int32)) from rfl) ((own_hi (own_s n)).trans (by rw [own_want, if_neg (by decide), if_pos (by decide), if_pos (by decide), own_sh1 n hn]; rfl))
        · exact Eq.trans (show _ = own_b (n ||| (128 : Int32)) from rfl) ((own_hi n).trans (by rw [own_want, if_neg (by decide), if_pos (by decide), if_pos (by decide)]; exact congrArg (fun z => ((z &&& (127 : Int32)) ||| (128 : Int32)).toInt8.toInt32) (own_sh0 n hn)))
        · exact Eq.trans (show _ = nar .byte (y.toInt8.toInt32) from rfl) ((own_nnar y).trans (if_pos (by decide)).symm)
        · exact Eq.trans (show _ = nar .byte (y.toInt8.toInt32) from rfl) ((own_nnar y).trans (if_pos (by decide)).symm)
      · simp only [if_neg c2]
        by_cases c3 : n < (268435456 : Int32)
        · simp only [if_pos c3]
          rcases ha with rfl | rfl | rfl | rfl
          · exact Eq.trans (show _ = own_b ((own_s n) ||| (128 : Int32)) from rfl) ((own_hi (own_s n)).trans (by rw [own_want, if_neg (by decide), if_pos (by decide), if_pos (by decide), own_sh1 n hn]; rfl))
          · exact Eq.trans (show _ = own_b (n ||| (128 : Int32)) from rfl) ((own_hi n).trans (by rw [own_want, if_neg (by decide), if_pos (by decide), if_pos (by decide)]; exact congrArg (fun z => ((z &&& (127 : Int32)) ||| (128 : Int32)).toInt8.toInt32) (own_sh0 n hn)))
          · exact Eq.trans (show _ = nar .byte (y.toInt8.toInt32) from rfl) ((own_nnar y).trans (if_pos (by decide)).symm)
          · exact Eq.trans (show _ = nar .byte (y.toInt8.toInt32) from rfl) ((own_nnar y).trans (if_pos (by decide)).symm)
        · simp only [if_neg c3]
          rcases ha with rfl | rfl | rfl | rfl
          · exact Eq.trans (show _ = own_b ((own_s n) ||| (128 : Int32)) from rfl) ((own_hi (own_s n)).trans (by rw [own_want, if_neg (by decide), if_pos (by decide), if_pos (by decide), own_sh1 n hn]; rfl))
          · exact Eq.trans (show _ = own_b (n ||| (128 : Int32)) from rfl) ((own_hi n).trans (by rw [own_want, if_neg (by decide), if_pos (by decide), if_pos (by decide)]; exact congrArg (fun z => ((z &&& (127 : Int32)) ||| (128 : Int32)).toInt8.toInt32) (own_sh0 n hn)))
          · exact Eq.trans (show _ = nar .byte (y.toInt8.toInt32) from rfl) ((own_nnar y).trans (if_pos (by decide)).symm)
          · exact Eq.trans (show _ = nar .byte (y.toInt8.toInt32) from rfl) ((own_nnar y).trans (if_pos (by decide)).symm)
theorem own_ok2 (n a v y : Int32) (hn : 0 ≤ n.toInt) (ha : a = (0 : Int32) ∨ a = (1 : Int32) ∨ a = (2 : Int32) ∨ a = (3 : Int32)) (hv : v = (if n < (128 : Int32) then (1 : Int32) else (if n < (16384 : Int32) then (2 : Int32) else (if n < (2097152 : Int32) then (3 : Int32) else (if n < (268435456 : Int32) then (4 : Int32) else (5 : Int32)))))) : ((own_w 4 a n [(nar .byte (y.toInt8.toInt32)), (nar .byte (y.toInt8.toInt32)), (nar .byte (y.toInt8.toInt32)), (nar .byte (y.toInt8.toInt32)), (nar .byte (y.toInt8.toInt32)), (nar .byte (y.toInt8.toInt32)), (nar .byte (y.toInt8.toInt32)), (nar .byte (y.toInt8.toInt32)), (nar .byte (y.toInt8.toInt32)), (nar .byte (y.toInt8.toInt32))]).getD (2 : Int32).toNatClampNeg 0) = own_want (2 : Int32) a v n (y.toInt8.toInt32) := by
  obtain ⟨e0, e1, e2, e3⟩ := own_lev n hn
  have r := rng32 n
  have k1 := own_sInt n hn
  have k2 := own_sInt (own_s n) (by omega)
  have k3 := own_sInt (own_s (own_s n)) (by omega)
  have k4 := own_sInt (own_s (own_s (own_s n))) (by omega)
  simp only [own_w, e0, e1, e2, e3, hv]
  by_cases c0 : n < (128 : Int32)
  · simp only [if_pos c0]
    rcases ha with rfl | rfl | rfl | rfl
    · exact Eq.trans (show _ = nar .byte (y.toInt8.toInt32) from rfl) ((own_nnar y).trans (((if_neg (by decide)).trans (if_neg (by decide))).symm))
    · exact Eq.trans (show _ = nar .byte (y.toInt8.toInt32) from rfl) ((own_nnar y).trans (((if_neg (by decide)).trans (if_neg (by decide))).symm))
    · exact Eq.trans (show _ = own_b n from rfl) ((own_lo n hn (e0.mpr c0)).trans (by rw [own_want, if_neg (by decide), if_pos (by decide), if_neg (by decide)]; exact congrArg (fun z => (z &&& (127 : Int32)).toInt8.toInt32) (own_sh0 n hn)))
    · exact Eq.trans (show _ = nar .byte (y.toInt8.toInt32) from rfl) ((own_nnar y).trans (if_pos (by decide)).symm)
  · simp only [if_neg c0]
    by_cases c1 : n < (16384 : Int32)
    · simp only [if_pos c1]
      rcases ha with rfl | rfl | rfl | rfl
      · exact Eq.trans (show _ = nar .byte (y.toInt8.toInt32) from rfl) ((own_nnar y).trans (((if_neg (by decide)).trans (if_neg (by decide))).symm))
      · exact Eq.trans (show _ = own_b (own_s n) from rfl) ((own_lo (own_s n) (by omega) (e1.mpr c1)).trans (by rw [own_want, if_neg (by decide), if_pos (by decide), if_neg (by decide), own_sh1 n hn]; rfl))
      · exact Eq.trans (show _ = own_b (n ||| (128 : Int32)) from rfl) ((own_hi n).trans (by rw [own_want, if_neg (by decide), if_pos (by decide), if_pos (by decide)]; exact congrArg (fun z => ((z &&& (127 : Int32)) ||| (128 : Int32)).toInt8.toInt32) (own_sh0 n hn)))
      · exact Eq.trans (show _ = nar .byte (y.toInt8.toInt32) from rfl) ((own_nnar y).trans (if_pos (by decide)).symm)
    · simp only [if_neg c1]
      by_cases c2 : n < (2097152 : Int32)
      · simp only [if_pos c2]
        rcases ha with rfl | rfl | rfl | rfl
        · exact Eq.trans (show _ = own_b (own_s (own_s n)) from rfl) ((own_lo (own_s (own_s n)) (by omega) (e2.mpr c2)).trans (by rw [own_want, if_neg (by decide), if_pos (by decide), if_neg (by decide), own_sh2 n hn]; rfl))
        · exact Eq.trans (show _ = own_b ((own_s n) ||| (128 : Int32)) from rfl) ((own_hi (own_s n)).trans (by rw [own_want, if_neg (by decide), if_pos (by decide), if_pos (by decide), own_sh1 n hn]; rfl))
        · exact Eq.trans (show _ = own_b (n ||| (128 : Int32)) from rfl) ((own_hi n).trans (by rw [own_want, if_neg (by decide), if_pos (by decide), if_pos (by decide)]; exact congrArg (fun z => ((z &&& (127 : Int32)) ||| (128 : Int32)).toInt8.toInt32) (own_sh0 n hn)))
        · exact Eq.trans (show _ = nar .byte (y.toInt8.toInt32) from rfl) ((own_nnar y).trans (if_pos (by decide)).symm)
      · simp only [if_neg c2]
        by_cases c3 : n < (268435456 : Int32)
        · simp only [if_pos c3]
          rcases ha with rfl | rfl | rfl | rfl
          · exact Eq.trans (show _ = own_b ((own_s (own_s n)) ||| (128 : Int32)) from rfl) ((own_hi (own_s (own_s n))).trans (by rw [own_want, if_neg (by decide), if_pos (by decide), if_pos (by decide), own_sh2 n hn]; rfl))
          · exact Eq.trans (show _ = own_b ((own_s n) ||| (128 : Int32)) from rfl) ((own_hi (own_s n)).trans (by rw [own_want, if_neg (by decide), if_pos (by decide), if_pos (by decide), own_sh1 n hn]; rfl))
          · exact Eq.trans (show _ = own_b (n ||| (128 : Int32)) from rfl) ((own_hi n).trans (by rw [own_want, if_neg (by decide), if_pos (by decide), if_pos (by decide)]; exact congrArg (fun z => ((z &&& (127 : Int32)) ||| (128 : Int32)).toInt8.toInt32) (own_sh0 n hn)))
          · exact Eq.trans (show _ = nar .byte (y.toInt8.toInt32) from rfl) ((own_nnar y).trans (if_pos (by decide)).symm)
        · simp only [if_neg c3]
          rcases ha with rfl | rfl | rfl | rfl
          · exact Eq.trans (show _ = own_b ((own_s (own_s n)) ||| (128 : Int32)) from rfl) ((own_hi (own_s (own_s n))).trans (by rw [own_want, if_neg (by decide), if_pos (by decide), if_pos (by decide), own_sh2 n hn]; rfl))
          · exact Eq.trans (show _ = own_b ((own_s n) ||| (128 : Int32)) from rfl) ((own_hi (own_s n)).trans (by rw [own_want, if_neg (by decide), if_pos (by decide), if_pos (by decide), own_sh1 n hn]; rfl))
          · exact Eq.trans (show _ = own_b (n ||| (128 : Int32)) from rfl) ((own_hi n).trans (by rw [own_want, if_neg (by decide), if_pos (by decide), if_pos (by decide)]; exact congrArg (fun z => ((z &&& (127 : Int32)) ||| (128 : Int32)).toInt8.toInt32) (own_sh0 n hn)))
          · exact Eq.trans (show _ = nar .byte (y.toInt8.toInt32) from rfl) ((own_nnar y).trans (if_pos (by decide)).symm)
theorem own_ok3 (n a v y : Int32) (hn : 0 ≤ n.toInt) (ha : a = (0 : Int32) ∨ a = (1 : Int32) ∨ a = (2 : Int32) ∨ a = (3 : Int32)) (hv : v = (if n < (128 : Int32) then (1 : Int32) else (if n < (16384 : Int32) then (2 : Int32) else (if n < (2097152 : Int32) then (3 : Int32) else (if n < (268435456 : Int32) then (4 : Int32) else (5 : Int32)))))) : ((own_w 4 a n [(nar .byte (y.toInt8.toInt32)), (nar .byte (y.toInt8.toInt32)), (nar .byte (y.toInt8.toInt32)), (nar .byte (y.toInt8.toInt32)), (nar .byte (y.toInt8.toInt32)), (nar .byte (y.toInt8.toInt32)), (nar .byte (y.toInt8.toInt32)), (nar .byte (y.toInt8.toInt32)), (nar .byte (y.toInt8.toInt32)), (nar .byte (y.toInt8.toInt32))]).getD (3 : Int32).toNatClampNeg 0) = own_want (3 : Int32) a v n (y.toInt8.toInt32) := by
  obtain ⟨e0, e1, e2, e3⟩ := own_lev n hn
  have r := rng32 n
  have k1 := own_sInt n hn
  have k2 := own_sInt (own_s n) (by omega)
  have k3 := own_sInt (own_s (own_s n)) (by omega)
  have k4 := own_sInt (own_s (own_s (own_s n))) (by omega)
  simp only [own_w, e0, e1, e2, e3, hv]
  by_cases c0 : n < (128 : Int32)
  · simp only [if_pos c0]
    rcases ha with rfl | rfl | rfl | rfl
    · exact Eq.trans (show _ = nar .byte (y.toInt8.toInt32) from rfl) ((own_nnar y).trans (((if_neg (by decide)).trans (if_neg (by decide))).symm))
    · exact Eq.trans (show _ = nar .byte (y.toInt8.toInt32) from rfl) ((own_nnar y).trans (((if_neg (by decide)).trans (if_neg (by decide))).symm))
    · exact Eq.trans (show _ = nar .byte (y.toInt8.toInt32) from rfl) ((own_nnar y).trans (((if_neg (by decide)).trans (if_neg (by decide))).symm))
    · exact Eq.trans (show _ = own_b n from rfl) ((own_lo n hn (e0.mpr c0)).trans (by rw [own_want, if_neg (by decide), if_pos (by decide), if_neg (by decide)]; exact congrArg (fun z => (z &&& (127 : Int32)).toInt8.toInt32) (own_sh0 n hn)))
  · simp only [if_neg c0]
    by_cases c1 : n < (16384 : Int32)
    · simp only [if_pos c1]
      rcases ha with rfl | rfl | rfl | rfl
      · exact Eq.trans (show _ = nar .byte (y.toInt8.toInt32) from rfl) ((own_nnar y).trans (((if_neg (by decide)).trans (if_neg (by decide))).symm))
      · exact Eq.trans (show _ = nar .byte (y.toInt8.toInt32) from rfl) ((own_nnar y).trans (((if_neg (by decide)).trans (if_neg (by decide))).symm))
      · exact Eq.trans (show _ = own_b (own_s n) from rfl) ((own_lo (own_s n) (by omega) (e1.mpr c1)).trans (by rw [own_want, if_neg (by decide), if_pos (by decide), if_neg (by decide), own_sh1 n hn]; rfl))
      · exact Eq.trans (show _ = own_b (n ||| (128 : Int32)) from rfl) ((own_hi n).trans (by rw [own_want, if_neg (by decide), if_pos (by decide), if_pos (by decide)]; exact congrArg (fun z => ((z &&& (127 : Int32)) ||| (128 : Int32)).toInt8.toInt32) (own_sh0 n hn)))
    · simp only [if_neg c1]
      by_cases c2 : n < (2097152 : Int32)
      · simp only [if_pos c2]
        rcases ha with rfl | rfl | rfl | rfl
        · exact Eq.trans (show _ = nar .byte (y.toInt8.toInt32) from rfl) ((own_nnar y).trans (((if_neg (by decide)).trans (if_neg (by decide))).symm))
        · exact Eq.trans (show _ = own_b (own_s (own_s n)) from rfl) ((own_lo (own_s (own_s n)) (by omega) (e2.mpr c2)).trans (by rw [own_want, if_neg (by decide), if_pos (by decide), if_neg (by decide), own_sh2 n hn]; rfl))
        · exact Eq.trans (show _ = own_b ((own_s n) ||| (128 : Int32)) from rfl) ((own_hi (own_s n)).trans (by rw [own_want, if_neg (by decide), if_pos (by decide), if_pos (by decide), own_sh1 n hn]; rfl))
        · exact Eq.trans (show _ = own_b (n ||| (128 : Int32)) from rfl) ((own_hi n).trans (by rw [own_want, if_neg (by decide), if_pos (by decide), if_pos (by decide)]; exact congrArg (fun z => ((z &&& (127 : Int32)) ||| (128 : Int32)).toInt8.toInt32) (own_sh0 n hn)))
      · simp only [if_neg c2]
        by_cases c3 : n < (268435456 : Int32)
        · simp only [if_pos c3]
          rcases ha with rfl | rfl | rfl | rfl
          · exact Eq.trans (show _ = own_b (own_s (own_s (own_s n))) from rfl) ((own_lo (own_s (own_s (own_s n))) (by omega) (e3.mpr c3)).trans (by rw [own_want, if_neg (by decide), if_pos (by decide), if_neg (by decide), own_sh3 n hn]; rfl))
          · exact Eq.trans (show _ = own_b ((own_s (own_s n)) ||| (128 : Int32)) from rfl) ((own_hi (own_s (own_s n))).trans (by rw [own_want, if_neg (by decide), if_pos (by decide), if_pos (by decide), own_sh2 n hn]; rfl))
          · exact Eq.trans (show _ = own_b ((own_s n) ||| (128 : Int32)) from rfl) ((own_hi (own_s n)).trans (by rw [own_want, if_neg (by decide), if_pos (by decide), if_pos (by decide), own_sh1 n hn]; rfl))
          · exact Eq.trans (show _ = own_b (n ||| (128 : Int32)) from rfl) ((own_hi n).trans (by rw [own_want, if_neg (by decide), if_pos (by decide), if_pos (by decide)]; exact congrArg (fun z => ((z &&& (127 : Int32)) ||| (128 : Int32)).toInt8.toInt32) (own_sh0 n hn)))
        · simp only [if_neg c3]
          rcases ha with rfl | rfl | rfl | rfl
          · exact Eq.trans (show _ = own_b ((own_s (own_s (own_s n))) ||| (128 : Int32)) from rfl) ((own_hi (own_s (own_s (own_s n)))).trans (by rw [own_want, if_neg (by decide), if_pos (by decide), if_pos (by decide), own_sh3 n hn]; rfl))
          · exact Eq.trans (show _ = own_b ((own_s (own_s n)) ||| (128 : Int32)) from rfl) ((own_hi (own_s (own_s n))).trans (by rw [own_want, if_neg (by decide), if_pos (by decide), if_pos (by decide), own_sh2 n hn]; rfl))
          · exact Eq.trans (show _ = own_b ((own_s n) ||| (128 : Int32)) from rfl) ((own_hi (own_s n)).trans (by rw [own_want, if_neg (by decide), if_pos (by decide), if_pos (by decide), own_sh1 n hn]; rfl))
          · exact Eq.trans (show _ = own_b (n ||| (128 : Int32)) from rfl) ((own_hi n).trans (by rw [own_want, if_neg (by decide), if_pos (by decide), if_pos (by decide)]; exact congrArg (fun z => ((z &&& (127 : Int32)) ||| (128 : Int32)).toInt8.toInt32) (own_sh0 n hn)))
theorem own_ok4 (n a v y : Int32) (hn : 0 ≤ n.toInt) (ha : a = (0 : Int32) ∨ a = (1 : Int32) ∨ a = (2 : Int32) ∨ a = (3 : Int32)) (hv : v = (if n < (128 : Int32) then (1 : Int32) else (if n < (16384 : Int32) then (2 : Int32) else (if n < (2097152 : Int32) then (3 : Int32) else (if n < (268435456 : Int32) then (4 : Int32) else (5 : Int32)))))) : ((own_w 4 a n [(nar .byte (y.toInt8.toInt32)), (nar .byte (y.toInt8.toInt32)), (nar .byte (y.toInt8.toInt32)), (nar .byte (y.toInt8.toInt32)), (nar .byte (y.toInt8.toInt32)), (nar .byte (y.toInt8.toInt32)), (nar .byte (y.toInt8.toInt32)), (nar .byte (y.toInt8.toInt32)), (nar .byte (y.toInt8.toInt32)), (nar .byte (y.toInt8.toInt32))]).getD (4 : Int32).toNatClampNeg 0) = own_want (4 : Int32) a v n (y.toInt8.toInt32) := by
  obtain ⟨e0, e1, e2, e3⟩ := own_lev n hn
  have r := rng32 n
  have k1 := own_sInt n hn
  have k2 := own_sInt (own_s n) (by omega)
  have k3 := own_sInt (own_s (own_s n)) (by omega)
  have k4 := own_sInt (own_s (own_s (own_s n))) (by omega)
  simp only [own_w, e0, e1, e2, e3, hv]
  by_cases c0 : n < (128 : Int32)
  · simp only [if_pos c0]
    rcases ha with rfl | rfl | rfl | rfl
    · exact Eq.trans (show _ = nar .byte (y.toInt8.toInt32) from rfl) ((own_nnar y).trans (((if_neg (by decide)).trans (if_neg (by decide))).symm))
    · exact Eq.trans (show _ = nar .byte (y.toInt8.toInt32) from rfl) ((own_nnar y).trans (((if_neg (by decide)).trans (if_neg (by decide))).symm))
    · exact Eq.trans (show _ = nar .byte (y.toInt8.toInt32) from rfl) ((own_nnar y).trans (((if_neg (by decide)).trans (if_neg (by decide))).symm))
    · exact Eq.trans (show _ = nar .byte (y.toInt8.toInt32) from rfl) ((own_nnar y).trans (((if_neg (by decide)).trans (if_neg (by decide))).symm))
  · simp only [if_neg c0]
    by_cases c1 : n < (16384 : Int32)
    · simp only [if_pos c1]
      rcases ha with rfl | rfl | rfl | rfl
      · exact Eq.trans (show _ = nar .byte (y.toInt8.toInt32) from rfl) ((own_nnar y).trans (((if_neg (by decide)).trans (if_neg (by decide))).symm))
      · exact Eq.trans (show _ = nar .byte (y.toInt8.toInt32) from rfl) ((own_nnar y).trans (((if_neg (by decide)).trans (if_neg (by decide))).symm))
      · exact Eq.trans (show _ = nar .byte (y.toInt8.toInt32) from rfl) ((own_nnar y).trans (((if_neg (by decide)).trans (if_neg (by decide))).symm))
      · exact Eq.trans (show _ = own_b (own_s n) from rfl) ((own_lo (own_s n) (by omega) (e1.mpr c1)).trans (by rw [own_want, if_neg (by decide), if_pos (by decide), if_neg (by decide), own_sh1 n hn]; rfl))
    · simp only [if_neg c1]
      by_cases c2 : n < (2097152 : Int32)
      · simp only [if_pos c2]
        rcases ha with rfl | rfl | rfl | rfl
        · exact Eq.trans (show _ = nar .byte (y.toInt8.toInt32) from rfl) ((own_nnar y).trans (((if_neg (by decide)).trans (if_neg (by decide))).symm))
        · exact Eq.trans (show _ = nar .byte (y.toInt8.toInt32) from rfl) ((own_nnar y).trans (((if_neg (by decide)).trans (if_neg (by decide))).symm))
        · exact Eq.trans (show _ = own_b (own_s (own_s n)) from rfl) ((own_lo (own_s (own_s n)) (by omega) (e2.mpr c2)).trans (by rw [own_want, if_neg (by decide), if_pos (by decide), if_neg (by decide), own_sh2 n hn]; rfl))
        · exact Eq.trans (show _ = own_b ((own_s n) ||| (128 : Int32)) from rfl) ((own_hi (own_s n)).trans (by rw [own_want, if_neg (by decide), if_pos (by decide), if_pos (by decide), own_sh1 n hn]; rfl))
      · simp only [if_neg c2]
        by_cases c3 : n < (268435456 : Int32)
        · simp only [if_pos c3]
          rcases ha with rfl | rfl | rfl | rfl
          · exact Eq.trans (show _ = nar .byte (y.toInt8.toInt32) from rfl) ((own_nnar y).trans (((if_neg (by decide)).trans (if_neg (by decide))).symm))
          · exact Eq.trans (show _ = own_b (own_s (own_s (own_s n))) from rfl) ((own_lo (own_s (own_s (own_s n))) (by omega) (e3.mpr c3)).trans (by rw [own_want, if_neg (by decide), if_pos (by decide), if_neg (by decide), own_sh3 n hn]; rfl))
          · exact Eq.trans (show _ = own_b ((own_s (own_s n)) ||| (128 : Int32)) from rfl) ((own_hi (own_s (own_s n))).trans (by rw [own_want, if_neg (by decide), if_pos (by decide), if_pos (by decide), own_sh2 n hn]; rfl))
          · exact Eq.trans (show _ = own_b ((own_s n) ||| (128 : Int32)) from rfl) ((own_hi (own_s n)).trans (by rw [own_want, if_neg (by decide), if_pos (by decide), if_pos (by decide), own_sh1 n hn]; rfl))
        · simp only [if_neg c3]
          rcases ha with rfl | rfl | rfl | rfl
          · exact Eq.trans (show _ = own_b (own_s (own_s (own_s (own_s n)))) from rfl) ((own_lo (own_s (own_s (own_s (own_s n)))) (by omega) (by rw [Int32.lt_iff_toInt_lt, (by decide : (128 : Int32).toInt = 128)]; omega)).trans (by rw [own_want, if_neg (by decide), if_pos (by decide), if_neg (by decide), own_sh4 n hn]; rfl))
          · exact Eq.trans (show _ = own_b ((own_s (own_s (own_s n))) ||| (128 : Int32)) from rfl) ((own_hi (own_s (own_s (own_s n)))).trans (by rw [own_want, if_neg (by decide), if_pos (by decide), if_pos (by decide), own_sh3 n hn]; rfl))
          · exact Eq.trans (show _ = own_b ((own_s (own_s n)) ||| (128 : Int32)) from rfl) ((own_hi (own_s (own_s n))).trans (by rw [own_want, if_neg (by decide), if_pos (by decide), if_pos (by decide), own_sh2 n hn]; rfl))
          · exact Eq.trans (show _ = own_b ((own_s n) ||| (128 : Int32)) from rfl) ((own_hi (own_s n)).trans (by rw [own_want, if_neg (by decide), if_pos (by decide), if_pos (by decide), own_sh1 n hn]; rfl))
theorem own_ok5 (n a v y : Int32) (hn : 0 ≤ n.toInt) (ha : a = (0 : Int32) ∨ a = (1 : Int32) ∨ a = (2 : Int32) ∨ a = (3 : Int32)) (hv : v = (if n < (128 : Int32) then (1 : Int32) else (if n < (16384 : Int32) then (2 : Int32) else (if n < (2097152 : Int32) then (3 : Int32) else (if n < (268435456 : Int32) then (4 : Int32) else (5 : Int32)))))) : ((own_w 4 a n [(nar .byte (y.toInt8.toInt32)), (nar .byte (y.toInt8.toInt32)), (nar .byte (y.toInt8.toInt32)), (nar .byte (y.toInt8.toInt32)), (nar .byte (y.toInt8.toInt32)), (nar .byte (y.toInt8.toInt32)), (nar .byte (y.toInt8.toInt32)), (nar .byte (y.toInt8.toInt32)), (nar .byte (y.toInt8.toInt32)), (nar .byte (y.toInt8.toInt32))]).getD (5 : Int32).toNatClampNeg 0) = own_want (5 : Int32) a v n (y.toInt8.toInt32) := by
  obtain ⟨e0, e1, e2, e3⟩ := own_lev n hn
  have r := rng32 n
  have k1 := own_sInt n hn
  have k2 := own_sInt (own_s n) (by omega)
  have k3 := own_sInt (own_s (own_s n)) (by omega)
  have k4 := own_sInt (own_s (own_s (own_s n))) (by omega)
  simp only [own_w, e0, e1, e2, e3, hv]
  by_cases c0 : n < (128 : Int32)
  · simp only [if_pos c0]
    rcases ha with rfl | rfl | rfl | rfl
    · exact Eq.trans (show _ = nar .byte (y.toInt8.toInt32) from rfl) ((own_nnar y).trans (((if_neg (by decide)).trans (if_neg (by decide))).symm))
    · exact Eq.trans (show _ = nar .byte (y.toInt8.toInt32) from rfl) ((own_nnar y).trans (((if_neg (by decide)).trans (if_neg (by decide))).symm))
    · exact Eq.trans (show _ = nar .byte (y.toInt8.toInt32) from rfl) ((own_nnar y).trans (((if_neg (by decide)).trans (if_neg (by decide))).symm))
    · exact Eq.trans (show _ = nar .byte (y.toInt8.toInt32) from rfl) ((own_nnar y).trans (((if_neg (by decide)).trans (if_neg (by decide))).symm))
  · simp only [if_neg c0]
    by_cases c1 : n < (16384 : Int32)
    · simp only [if_pos c1]
      rcases ha with rfl | rfl | rfl | rfl
      · exact Eq.trans (show _ = nar .byte (y.toInt8.toInt32) from rfl) ((own_nnar y).trans (((if_neg (by decide)).trans (if_neg (by decide))).symm))
      · exact Eq.trans (show _ = nar .byte (y.toInt8.toInt32) from rfl) ((own_nnar y).trans (((if_neg (by decide)).trans (if_neg (by decide))).symm))
      · exact Eq.trans (show _ = nar .byte (y.toInt8.toInt32) from rfl) ((own_nnar y).trans (((if_neg (by decide)).trans (if_neg (by decide))).symm))
      · exact Eq.trans (show _ = nar .byte (y.toInt8.toInt32) from rfl) ((own_nnar y).trans (((if_neg (by decide)).trans (if_neg (by decide))).symm))
    · simp only [if_neg c1]
      by_cases c2 : n < (2097152 : Int32)
      · simp only [if_pos c2]
        rcases ha with rfl | rfl | rfl | rfl
        · exact Eq.trans (show _ = nar .byte (y.toInt8.toInt32) from rfl) ((own_nnar y).trans (((if_neg (by decide)).trans (if_neg (by decide))).symm))
        · exact Eq.trans (show _ = nar .byte (y.toInt8.toInt32) from rfl) ((own_nnar y).trans (((if_neg (by decide)).trans (if_neg (by decide))).symm))
        · exact Eq.trans (show _ = nar .byte (y.toInt8.toInt32) from rfl) ((own_nnar y).trans (((if_neg (by decide)).trans (if_neg (by decide))).symm))
        · exact Eq.trans (show _ = own_b (own_s (own_s n)) from rfl) ((own_lo (own_s (own_s n)) (by omega) (e2.mpr c2)).trans (by rw [own_want, if_neg (by decide), if_pos (by decide), if_neg (by decide), own_sh2 n hn]; rfl))
      · simp only [if_neg c2]
        by_cases c3 : n < (268435456 : Int32)
        · simp only [if_pos c3]
          rcases ha with rfl | rfl | rfl | rfl
          · exact Eq.trans (show _ = nar .byte (y.toInt8.toInt32) from rfl) ((own_nnar y).trans (((if_neg (by decide)).trans (if_neg (by decide))).symm))
          · exact Eq.trans (show _ = nar .byte (y.toInt8.toInt32) from rfl) ((own_nnar y).trans (((if_neg (by decide)).trans (if_neg (by decide))).symm))
          · exact Eq.trans (show _ = own_b (own_s (own_s (own_s n))) from rfl) ((own_lo (own_s (own_s (own_s n))) (by omega) (e3.mpr c3)).trans (by rw [own_want, if_neg (by decide), if_pos (by decide), if_neg (by decide), own_sh3 n hn]; rfl))
          · exact Eq.trans (show _ = own_b ((own_s (own_s n)) ||| (128 : Int32)) from rfl) ((own_hi (own_s (own_s n))).trans (by rw [own_want, if_neg (by decide), if_pos (by decide), if_pos (by decide), own_sh2 n hn]; rfl))
        · simp only [if_neg c3]
          rcases ha with rfl | rfl | rfl | rfl
          · exact Eq.trans (show _ = nar .byte (y.toInt8.toInt32) from rfl) ((own_nnar y).trans (((if_neg (by decide)).trans (if_neg (by decide))).symm))
          · exact Eq.trans (show _ = own_b (own_s (own_s (own_s (own_s n)))) from rfl) ((own_lo (own_s (own_s (own_s (own_s n)))) (by omega) (by rw [Int32.lt_iff_toInt_lt, (by decide : (128 : Int32).toInt = 128)]; omega)).trans (by rw [own_want, if_neg (by decide), if_pos (by decide), if_neg (by decide), own_sh4 n hn]; rfl))
          · exact Eq.trans (show _ = own_b ((own_s (own_s (own_s n))) ||| (128 : Int32)) from rfl) ((own_hi (own_s (own_s (own_s n)))).trans (by rw [own_want, if_neg (by decide), if_pos (by decide), if_pos (by decide), own_sh3 n hn]; rfl))
          · exact Eq.trans (show _ = own_b ((own_s (own_s n)) ||| (128 : Int32)) from rfl) ((own_hi (own_s (own_s n))).trans (by rw [own_want, if_neg (by decide), if_pos (by decide), if_pos (by decide), own_sh2 n hn]; rfl))
theorem own_ok6 (n a v y : Int32) (hn : 0 ≤ n.toInt) (ha : a = (0 : Int32) ∨ a = (1 : Int32) ∨ a = (2 : Int32) ∨ a = (3 : Int32)) (hv : v = (if n < (128 : Int32) then (1 : Int32) else (if n < (16384 : Int32) then (2 : Int32) else (if n < (2097152 : Int32) then (3 : Int32) else (if n < (268435456 : Int32) then (4 : Int32) else (5 : Int32)))))) : ((own_w 4 a n [(nar .byte (y.toInt8.toInt32)), (nar .byte (y.toInt8.toInt32)), (nar .byte (y.toInt8.toInt32)), (nar .byte (y.toInt8.toInt32)), (nar .byte (y.toInt8.toInt32)), (nar .byte (y.toInt8.toInt32)), (nar .byte (y.toInt8.toInt32)), (nar .byte (y.toInt8.toInt32)), (nar .byte (y.toInt8.toInt32)), (nar .byte (y.toInt8.toInt32))]).getD (6 : Int32).toNatClampNeg 0) = own_want (6 : Int32) a v n (y.toInt8.toInt32) := by
  obtain ⟨e0, e1, e2, e3⟩ := own_lev n hn
  have r := rng32 n
  have k1 := own_sInt n hn
  have k2 := own_sInt (own_s n) (by omega)
  have k3 := own_sInt (own_s (own_s n)) (by omega)
  have k4 := own_sInt (own_s (own_s (own_s n))) (by omega)
  simp only [own_w, e0, e1, e2, e3, hv]
  by_cases c0 : n < (128 : Int32)
  · simp only [if_pos c0]
    rcases ha with rfl | rfl | rfl | rfl
    · exact Eq.trans (show _ = nar .byte (y.toInt8.toInt32) from rfl) ((own_nnar y).trans (((if_neg (by decide)).trans (if_neg (by decide))).symm))
    · exact Eq.trans (show _ = nar .byte (y.toInt8.toInt32) from rfl) ((own_nnar y).trans (((if_neg (by decide)).trans (if_neg (by decide))).symm))
    · exact Eq.trans (show _ = nar .byte (y.toInt8.toInt32) from rfl) ((own_nnar y).trans (((if_neg (by decide)).trans (if_neg (by decide))).symm))
    · exact Eq.trans (show _ = nar .byte (y.toInt8.toInt32) from rfl) ((own_nnar y).trans (((if_neg (by decide)).trans (if_neg (by decide))).symm))
  · simp only [if_neg c0]
    by_cases c1 : n < (16384 : Int32)
    · simp only [if_pos c1]
      rcases ha with rfl | rfl | rfl | rfl
      · exact Eq.trans (show _ = nar .byte (y.toInt8.toInt32) from rfl) ((own_nnar y).trans (((if_neg (by decide)).trans (if_neg (by decide))).symm))
      · exact Eq.trans (show _ = nar .byte (y.toInt8.toInt32) from rfl) ((own_nnar y).trans (((if_neg (by decide)).trans (if_neg (by decide))).symm))
      · exact Eq.trans (show _ = nar .byte (y.toInt8.toInt32) from rfl) ((own_nnar y).trans (((if_neg (by decide)).trans (if_neg (by decide))).symm))
      · exact Eq.trans (show _ = nar .byte (y.toInt8.toInt32) from rfl) ((own_nnar y).trans (((if_neg (by decide)).trans (if_neg (by decide))).symm))
    · simp only [if_neg c1]
      by_cases c2 : n < (2097152 : Int32)
      · simp only [if_pos c2]
        rcases ha with rfl | rfl | rfl | rfl
        · exact Eq.trans (show _ = nar .byte (y.toInt8.toInt32) from rfl) ((own_nnar y).trans (((if_neg (by decide)).trans (if_neg (by decide))).symm))
        · exact Eq.trans (show _ = nar .byte (y.toInt8.toInt32) from rfl) ((own_nnar y).trans (((if_neg (by decide)).trans (if_neg (by decide))).symm))
        · exact Eq.trans (show _ = nar .byte (y.toInt8.toInt32) from rfl) ((own_nnar y).trans (((if_neg (by decide)).trans (if_neg (by decide))).symm))
        · exact Eq.trans (show _ = nar .byte (y.toInt8.toInt32) from rfl) ((own_nnar y).trans (((if_neg (by decide)).trans (if_neg (by decide))).symm))
      · simp only [if_neg c2]
        by_cases c3 : n < (268435456 : Int32)
        · simp only [if_pos c3]
          rcases ha with rfl | rfl | rfl | rfl
          · exact Eq.trans (show _ = nar .byte (y.toInt8.toInt32) from rfl) ((own_nnar y).trans (((if_neg (by decide)).trans (if_neg (by decide))).symm))
          · exact Eq.trans (show _ = nar .byte (y.toInt8.toInt32) from rfl) ((own_nnar y).trans (((if_neg (by decide)).trans (if_neg (by decide))).symm))
          · exact Eq.trans (show _ = nar .byte (y.toInt8.toInt32) from rfl) ((own_nnar y).trans (((if_neg (by decide)).trans (if_neg (by decide))).symm))
          · exact Eq.trans (show _ = own_b (own_s (own_s (own_s n))) from rfl) ((own_lo (own_s (own_s (own_s n))) (by omega) (e3.mpr c3)).trans (by rw [own_want, if_neg (by decide), if_pos (by decide), if_neg (by decide), own_sh3 n hn]; rfl))
        · simp only [if_neg c3]
          rcases ha with rfl | rfl | rfl | rfl
          · exact Eq.trans (show _ = nar .byte (y.toInt8.toInt32) from rfl) ((own_nnar y).trans (((if_neg (by decide)).trans (if_neg (by decide))).symm))
          · exact Eq.trans (show _ = nar .byte (y.toInt8.toInt32) from rfl) ((own_nnar y).trans (((if_neg (by decide)).trans (if_neg (by decide))).symm))
          · exact Eq.trans (show _ = own_b (own_s (own_s (own_s (own_s n)))) from rfl) ((own_lo (own_s (own_s (own_s (own_s n)))) (by omega) (by rw [Int32.lt_iff_toInt_lt, (by decide : (128 : Int32).toInt = 128)]; omega)).trans (by rw [own_want, if_neg (by decide), if_pos (by decide), if_neg (by decide), own_sh4 n hn]; rfl))
          · exact Eq.trans (show _ = own_b ((own_s (own_s (own_s n))) ||| (128 : Int32)) from rfl) ((own_hi (own_s (own_s (own_s n)))).trans (by rw [own_want, if_neg (by decide), if_pos (by decide), if_pos (by decide), own_sh3 n hn]; rfl))
theorem own_ok7 (n a v y : Int32) (hn : 0 ≤ n.toInt) (ha : a = (0 : Int32) ∨ a = (1 : Int32) ∨ a = (2 : Int32) ∨ a = (3 : Int32)) (hv : v = (if n < (128 : Int32) then (1 : Int32) else (if n < (16384 : Int32) then (2 : Int32) else (if n < (2097152 : Int32) then (3 : Int32) else (if n < (268435456 : Int32) then (4 : Int32) else (5 : Int32)))))) : ((own_w 4 a n [(nar .byte (y.toInt8.toInt32)), (nar .byte (y.toInt8.toInt32)), (nar .byte (y.toInt8.toInt32)), (nar .byte (y.toInt8.toInt32)), (nar .byte (y.toInt8.toInt32)), (nar .byte (y.toInt8.toInt32)), (nar .byte (y.toInt8.toInt32)), (nar .byte (y.toInt8.toInt32)), (nar .byte (y.toInt8.toInt32)), (nar .byte (y.toInt8.toInt32))]).getD (7 : Int32).toNatClampNeg 0) = own_want (7 : Int32) a v n (y.toInt8.toInt32) := by
  obtain ⟨e0, e1, e2, e3⟩ := own_lev n hn
  have r := rng32 n
  have k1 := own_sInt n hn
  have k2 := own_sInt (own_s n) (by omega)
  have k3 := own_sInt (own_s (own_s n)) (by omega)
  have k4 := own_sInt (own_s (own_s (own_s n))) (by omega)
  simp only [own_w, e0, e1, e2, e3, hv]
  by_cases c0 : n < (128 : Int32)
  · simp only [if_pos c0]
    rcases ha with rfl | rfl | rfl | rfl
    · exact Eq.trans (show _ = nar .byte (y.toInt8.toInt32) from rfl) ((own_nnar y).trans (((if_neg (by decide)).trans (if_neg (by decide))).symm))
    · exact Eq.trans (show _ = nar .byte (y.toInt8.toInt32) from rfl) ((own_nnar y).trans (((if_neg (by decide)).trans (if_neg (by decide))).symm))
    · exact Eq.trans (show _ = nar .byte (y.toInt8.toInt32) from rfl) ((own_nnar y).trans (((if_neg (by decide)).trans (if_neg (by decide))).symm))
    · exact Eq.trans (show _ = nar .byte (y.toInt8.toInt32) from rfl) ((own_nnar y).trans (((if_neg (by decide)).trans (if_neg (by decide))).symm))
  · simp only [if_neg c0]
    by_cases c1 : n < (16384 : Int32)
    · simp only [if_pos c1]
      rcases ha with rfl | rfl | rfl | rfl
      · exact Eq.trans (show _ = nar .byte (y.toInt8.toInt32) from rfl) ((own_nnar y).trans (((if_neg (by decide)).trans (if_neg (by decide))).symm))
      · exact Eq.trans (show _ = nar .byte (y.toInt8.toInt32) from rfl) ((own_nnar y).trans (((if_neg (by decide)).trans (if_neg (by decide))).symm))
      · exact Eq.trans (show _ = nar .byte (y.toInt8.toInt32) from rfl) ((own_nnar y).trans (((if_neg (by decide)).trans (if_neg (by decide))).symm))
      · exact Eq.trans (show _ = nar .byte (y.toInt8.toInt32) from rfl) ((own_nnar y).trans (((if_neg (by decide)).trans (if_neg (by decide))).symm))
    · simp only [if_neg c1]
      by_cases c2 : n < (2097152 : Int32)
      · simp only [if_pos c2]
        rcases ha with rfl | rfl | rfl | rfl
        · exact Eq.trans (show _ = nar .byte (y.toInt8.toInt32) from rfl) ((own_nnar y).trans (((if_neg (by decide)).trans (if_neg (by decide))).symm))
        · exact Eq.trans (show _ = nar .byte (y.toInt8.toInt32) from rfl) ((own_nnar y).trans (((if_neg (by decide)).trans (if_neg (by decide))).symm))
        · exact Eq.trans (show _ = nar .byte (y.toInt8.toInt32) from rfl) ((own_nnar y).trans (((if_neg (by decide)).trans (if_neg (by decide))).symm))
        · exact Eq.trans (show _ = nar .byte (y.toInt8.toInt32) from rfl) ((own_nnar y).trans (((if_neg (by decide)).trans (if_neg (by decide))).symm))
      · simp only [if_neg c2]
        by_cases c3 : n < (268435456 : Int32)
        · simp only [if_pos c3]
          rcases ha with rfl | rfl | rfl | rfl
          · exact Eq.trans (show _ = nar .byte (y.toInt8.toInt32) from rfl) ((own_nnar y).trans (((if_neg (by decide)).trans (if_neg (by decide))).symm))
          · exact Eq.trans (show _ = nar .byte (y.toInt8.toInt32) from rfl) ((own_nnar y).trans (((if_neg (by decide)).trans (if_neg (by decide))).symm))
          · exact Eq.trans (show _ = nar .byte (y.toInt8.toInt32) from rfl) ((own_nnar y).trans (((if_neg (by decide)).trans (if_neg (by decide))).symm))
          · exact Eq.trans (show _ = nar .byte (y.toInt8.toInt32) from rfl) ((own_nnar y).trans (((if_neg (by decide)).trans (if_neg (by decide))).symm))
        · simp only [if_neg c3]
          rcases ha with rfl | rfl | rfl | rfl
          · exact Eq.trans (show _ = nar .byte (y.toInt8.toInt32) from rfl) ((own_nnar y).trans (((if_neg (by decide)).trans (if_neg (by decide))).symm))
          · exact Eq.trans (show _ = nar .byte (y.toInt8.toInt32) from rfl) ((own_nnar y).trans (((if_neg (by decide)).trans (if_neg (by decide))).symm))
          · exact Eq.trans (show _ = nar .byte (y.toInt8.toInt32) from rfl) ((own_nnar y).trans (((if_neg (by decide)).trans (if_neg (by decide))).symm))
          · exact Eq.trans (show _ = own_b (own_s (own_s (own_s (own_s n)))) from rfl) ((own_lo (own_s (own_s (own_s (own_s n)))) (by omega) (by rw [Int32.lt_iff_toInt_lt, (by decide : (128 : Int32).toInt = 128)]; omega)).trans (by rw [own_want, if_neg (by decide), if_pos (by decide), if_neg (by decide), own_sh4 n hn]; rfl))
theorem own_ok8 (n a v y : Int32) (hn : 0 ≤ n.toInt) (ha : a = (0 : Int32) ∨ a = (1 : Int32) ∨ a = (2 : Int32) ∨ a = (3 : Int32)) (hv : v = (if n < (128 : Int32) then (1 : Int32) else (if n < (16384 : Int32) then (2 : Int32) else (if n < (2097152 : Int32) then (3 : Int32) else (if n < (268435456 : Int32) then (4 : Int32) else (5 : Int32)))))) : ((own_w 4 a n [(nar .byte (y.toInt8.toInt32)), (nar .byte (y.toInt8.toInt32)), (nar .byte (y.toInt8.toInt32)), (nar .byte (y.toInt8.toInt32)), (nar .byte (y.toInt8.toInt32)), (nar .byte (y.toInt8.toInt32)), (nar .byte (y.toInt8.toInt32)), (nar .byte (y.toInt8.toInt32)), (nar .byte (y.toInt8.toInt32)), (nar .byte (y.toInt8.toInt32))]).getD (8 : Int32).toNatClampNeg 0) = own_want (8 : Int32) a v n (y.toInt8.toInt32) := by
  obtain ⟨e0, e1, e2, e3⟩ := own_lev n hn
  have r := rng32 n
  have k1 := own_sInt n hn
  have k2 := own_sInt (own_s n) (by omega)
  have k3 := own_sInt (own_s (own_s n)) (by omega)
  have k4 := own_sInt (own_s (own_s (own_s n))) (by omega)
  simp only [own_w, e0, e1, e2, e3, hv]
  by_cases c0 : n < (128 : Int32)
  · simp only [if_pos c0]
    rcases ha with rfl | rfl | rfl | rfl
    · exact Eq.trans (show _ = nar .byte (y.toInt8.toInt32) from rfl) ((own_nnar y).trans (((if_neg (by decide)).trans (if_neg (by decide))).symm))
    · exact Eq.trans (show _ = nar .byte (y.toInt8.toInt32) from rfl) ((own_nnar y).trans (((if_neg (by decide)).trans (if_neg (by decide))).symm))
    · exact Eq.trans (show _ = nar .byte (y.toInt8.toInt32) from rfl) ((own_nnar y).trans (((if_neg (by decide)).trans (if_neg (by decide))).symm))
    · exact Eq.trans (show _ = nar .byte (y.toInt8.toInt32) from rfl) ((own_nnar y).trans (((if_neg (by decide)).trans (if_neg (by decide))).symm))
  · simp only [if_neg c0]
    by_cases c1 : n < (16384 : Int32)
    · simp only [if_pos c1]
      rcases ha with rfl | rfl | rfl | rfl
      · exact Eq.trans (show _ = nar .byte (y.toInt8.toInt32) from rfl) ((own_nnar y).trans (((if_neg (by decide)).trans (if_neg (by decide))).symm))
      · exact Eq.trans (show _ = nar .byte (y.toInt8.toInt32) from rfl) ((own_nnar y).trans (((if_neg (by decide)).trans (if_neg (by decide))).symm))
      · exact Eq.trans (show _ = nar .byte (y.toInt8.toInt32) from rfl) ((own_nnar y).trans (((if_neg (by decide)).trans (if_neg (by decide))).symm))
      · exact Eq.trans (show _ = nar .byte (y.toInt8.toInt32) from rfl) ((own_nnar y).trans (((if_neg (by decide)).trans (if_neg (by decide))).symm))
    · simp only [if_neg c1]
      by_cases c2 : n < (2097152 : Int32)
      · simp only [if_pos c2]
        rcases ha with rfl | rfl | rfl | rfl
        · exact Eq.trans (show _ = nar .byte (y.toInt8.toInt32) from rfl) ((own_nnar y).trans (((if_neg (by decide)).trans (if_neg (by decide))).symm))
        · exact Eq.trans (show _ = nar .byte (y.toInt8.toInt32) from rfl) ((own_nnar y).trans (((if_neg (by decide)).trans (if_neg (by decide))).symm))
        · exact Eq.trans (show _ = nar .byte (y.toInt8.toInt32) from rfl) ((own_nnar y).trans (((if_neg (by decide)).trans (if_neg (by decide))).symm))
        · exact Eq.trans (show _ = nar .byte (y.toInt8.toInt32) from rfl) ((own_nnar y).trans (((if_neg (by decide)).trans (if_neg (by decide))).symm))
      · simp only [if_neg c2]
        by_cases c3 : n < (268435456 : Int32)
        · simp only [if_pos c3]
          rcases ha with rfl | rfl | rfl | rfl
          · exact Eq.trans (show _ = nar .byte (y.toInt8.toInt32) from rfl) ((own_nnar y).trans (((if_neg (by decide)).trans (if_neg (by decide))).symm))
          · exact Eq.trans (show _ = nar .byte (y.toInt8.toInt32) from rfl) ((own_nnar y).trans (((if_neg (by decide)).trans (if_neg (by decide))).symm))
          · exact Eq.trans (show _ = nar .byte (y.toInt8.toInt32) from rfl) ((own_nnar y).trans (((if_neg (by decide)).trans (if_neg (by decide))).symm))
          · exact Eq.trans (show _ = nar .byte (y.toInt8.toInt32) from rfl) ((own_nnar y).trans (((if_neg (by decide)).trans (if_neg (by decide))).symm))
        · simp only [if_neg c3]
          rcases ha with rfl | rfl | rfl | rfl
          · exact Eq.trans (show _ = nar .byte (y.toInt8.toInt32) from rfl) ((own_nnar y).trans (((if_neg (by decide)).trans (if_neg (by decide))).symm))
          · exact Eq.trans (show _ = nar .byte (y.toInt8.toInt32) from rfl) ((own_nnar y).trans (((if_neg (by decide)).trans (if_neg (by decide))).symm))
          · exact Eq.trans (show _ = nar .byte (y.toInt8.toInt32) from rfl) ((own_nnar y).trans (((if_neg (by decide)).trans (if_neg (by decide))).symm))
          · exact Eq.trans (show _ = nar .byte (y.toInt8.toInt32) from rfl) ((own_nnar y).trans (((if_neg (by decide)).trans (if_neg (by decide))).symm))
theorem own_ok9 (n a v y : Int32) (hn : 0 ≤ n.toInt) (ha : a = (0 : Int32) ∨ a = (1 : Int32) ∨ a = (2 : Int32) ∨ a = (3 : Int32)) (hv : v = (if n < (128 : Int32) then (1 : Int32) else (if n < (16384 : Int32) then (2 : Int32) else (if n < (2097152 : Int32) then (3 : Int32) else (if n < (268435456 : Int32) then (4 : Int32) else (5 : Int32)))))) : ((own_w 4 a n [(nar .byte (y.toInt8.toInt32)), (nar .byte (y.toInt8.toInt32)), (nar .byte (y.toInt8.toInt32)), (nar .byte (y.toInt8.toInt32)), (nar .byte (y.toInt8.toInt32)), (nar .byte (y.toInt8.toInt32)), (nar .byte (y.toInt8.toInt32)), (nar .byte (y.toInt8.toInt32)), (nar .byte (y.toInt8.toInt32)), (nar .byte (y.toInt8.toInt32))]).getD (9 : Int32).toNatClampNeg 0) = own_want (9 : Int32) a v n (y.toInt8.toInt32) := by
  obtain ⟨e0, e1, e2, e3⟩ := own_lev n hn
  have r := rng32 n
  have k1 := own_sInt n hn
  have k2 := own_sInt (own_s n) (by omega)
  have k3 := own_sInt (own_s (own_s n)) (by omega)
  have k4 := own_sInt (own_s (own_s (own_s n))) (by omega)
  simp only [own_w, e0, e1, e2, e3, hv]
  by_cases c0 : n < (128 : Int32)
  · simp only [if_pos c0]
    rcases ha with rfl | rfl | rfl | rfl
    · exact Eq.trans (show _ = nar .byte (y.toInt8.toInt32) from rfl) ((own_nnar y).trans (((if_neg (by decide)).trans (if_neg (by decide))).symm))
    · exact Eq.trans (show _ = nar .byte (y.toInt8.toInt32) from rfl) ((own_nnar y).trans (((if_neg (by decide)).trans (if_neg (by decide))).symm))
    · exact Eq.trans (show _ = nar .byte (y.toInt8.toInt32) from rfl) ((own_nnar y).trans (((if_neg (by decide)).trans (if_neg (by decide))).symm))
    · exact Eq.trans (show _ = nar .byte (y.toInt8.toInt32) from rfl) ((own_nnar y).trans (((if_neg (by decide)).trans (if_neg (by decide))).symm))
  · simp only [if_neg c0]
    by_cases c1 : n < (16384 : Int32)
    · simp only [if_pos c1]
      rcases ha with rfl | rfl | rfl | rfl
      · exact Eq.trans (show _ = nar .byte (y.toInt8.toInt32) from rfl) ((own_nnar y).trans (((if_neg (by decide)).trans (if_neg (by decide))).symm))
      · exact Eq.trans (show _ = nar .byte (y.toInt8.toInt32) from rfl) ((own_nnar y).trans (((if_neg (by decide)).trans (if_neg (by decide))).symm))
      · exact Eq.trans (show _ = nar .byte (y.toInt8.toInt32) from rfl) ((own_nnar y).trans (((if_neg (by decide)).trans (if_neg (by decide))).symm))
      · exact Eq.trans (show _ = nar .byte (y.toInt8.toInt32) from rfl) ((own_nnar y).trans (((if_neg (by decide)).trans (if_neg (by decide))).symm))
    · simp only [if_neg c1]
      by_cases c2 : n < (2097152 : Int32)
      · simp only [if_pos c2]
        rcases ha with rfl | rfl | rfl | rfl
        · exact Eq.trans (show _ = nar .byte (y.toInt8.toInt32) from rfl) ((own_nnar y).trans (((if_neg (by decide)).trans (if_neg (by decide))).symm))
        · exact Eq.trans (show _ = nar .byte (y.toInt8.toInt32) from rfl) ((own_nnar y).trans (((if_neg (by decide)).trans (if_neg (by decide))).symm))
        · exact Eq.trans (show _ = nar .byte (y.toInt8.toInt32) from rfl) ((own_nnar y).trans (((if_neg (by decide)).trans (if_neg (by decide))).symm))
        · exact Eq.trans (show _ = nar .byte (y.toInt8.toInt32) from rfl) ((own_nnar y).trans (((if_neg (by decide)).trans (if_neg (by decide))).symm))
      · simp only [if_neg c2]
        by_cases c3 : n < (268435456 : Int32)
        · simp only [if_pos c3]
          rcases ha with rfl | rfl | rfl | rfl
          · exact Eq.trans (show _ = nar .byte (y.toInt8.toInt32) from rfl) ((own_nnar y).trans (((if_neg (by decide)).trans (if_neg (by decide))).symm))
          · exact Eq.trans (show _ = nar .byte (y.toInt8.toInt32) from rfl) ((own_nnar y).trans (((if_neg (by decide)).trans (if_neg (by decide))).symm))
          · exact Eq.trans (show _ = nar .byte (y.toInt8.toInt32) from rfl) ((own_nnar y).trans (((if_neg (by decide)).trans (if_neg (by decide))).symm))
          · exact Eq.trans (show _ = nar .byte (y.toInt8.toInt32) from rfl) ((own_nnar y).trans (((if_neg (by decide)).trans (if_neg (by decide))).symm))
        · simp only [if_neg c3]
          rcases ha with rfl | rfl | rfl | rfl
          · exact Eq.trans (show _ = nar .byte (y.toInt8.toInt32) from rfl) ((own_nnar y).trans (((if_neg (by decide)).trans (if_neg (by decide))).symm))
          · exact Eq.trans (show _ = nar .byte (y.toInt8.toInt32) from rfl) ((own_nnar y).trans (((if_neg (by decide)).trans (if_neg (by decide))).symm))
          · exact Eq.trans (show _ = nar .byte (y.toInt8.toInt32) from rfl) ((own_nnar y).trans (((if_neg (by decide)).trans (if_neg (by decide))).symm))
          · exact Eq.trans (show _ = nar .byte (y.toInt8.toInt32) from rfl) ((own_nnar y).trans (((if_neg (by decide)).trans (if_neg (by decide))).symm))
theorem pn_0 : plainName "com/example/drienerlo/drienerlo/index/Varint" = true := by first | (simp [plainName, overriddenIn]; done) | decide +kernel
theorem d1_0 : decode prog_36_method_2_code 0 = .ok (.iload_n 1, 1) := by decide +kernel
theorem d1_1 : decode prog_36_method_2_code 1 = .ok (.istore_n 3, 1) := by decide +kernel
theorem d1_2 : decode prog_36_method_2_code 2 = .ok (.iload_n 2, 1) := by decide +kernel
theorem d1_3 : decode prog_36_method_2_code 3 = .ok (.istore 4, 2) := by decide +kernel
theorem d1_5 : decode prog_36_method_2_code 5 = .ok (.iload 4, 2) := by decide +kernel
theorem d1_7 : decode prog_36_method_2_code 7 = .ok (.sipush 128, 3) := by decide +kernel
theorem d1_10 : decode prog_36_method_2_code 10 = .ok (.if_icmp .lt 26, 3) := by decide +kernel
theorem d1_13 : decode prog_36_method_2_code 13 = .ok (.aload_n 0, 1) := by decide +kernel
theorem d1_14 : decode prog_36_method_2_code 14 = .ok (.iload_n 3, 1) := by decide +kernel
theorem d1_15 : decode prog_36_method_2_code 15 = .ok (.iload 4, 2) := by decide +kernel
theorem d1_17 : decode prog_36_method_2_code 17 = .ok (.sipush 128, 3) := by decide +kernel
theorem d1_20 : decode prog_36_method_2_code 20 = .ok (.ior, 1) := by decide +kernel
theorem d1_21 : decode prog_36_method_2_code 21 = .ok (.i2b, 1) := by decide +kernel
theorem d1_22 : decode prog_36_method_2_code 22 = .ok (.bastore, 1) := by decide +kernel
theorem d1_23 : decode prog_36_method_2_code 23 = .ok (.iinc 3 1, 3) := by decide +kernel
theorem d1_26 : decode prog_36_method_2_code 26 = .ok (.iload 4, 2) := by decide +kernel
theorem d1_28 : decode prog_36_method_2_code 28 = .ok (.bipush 7, 2) := by decide +kernel
theorem d1_30 : decode prog_36_method_2_code 30 = .ok (.iushr, 1) := by decide +kernel
theorem d1_31 : decode prog_36_method_2_code 31 = .ok (.istore 4, 2) := by decide +kernel
theorem d1_33 : decode prog_36_method_2_code 33 = .ok (.goto (-28), 3) := by decide +kernel
theorem d1_36 : decode prog_36_method_2_code 36 = .ok (.aload_n 0, 1) := by decide +kernel
theorem d1_37 : decode prog_36_method_2_code 37 = .ok (.iload_n 3, 1) := by decide +kernel
theorem d1_38 : decode prog_36_method_2_code 38 = .ok (.iload 4, 2) := by decide +kernel
theorem d1_40 : decode prog_36_method_2_code 40 = .ok (.i2b, 1) := by decide +kernel
theorem d1_41 : decode prog_36_method_2_code 41 = .ok (.bastore, 1) := by decide +kernel
theorem d1_42 : decode prog_36_method_2_code 42 = .ok (.iload_n 3, 1) := by decide +kernel
theorem d1_43 : decode prog_36_method_2_code 43 = .ok (.iconst 1, 1) := by decide +kernel
theorem d1_44 : decode prog_36_method_2_code 44 = .ok (.iadd, 1) := by decide +kernel
theorem d1_45 : decode prog_36_method_2_code 45 = .ok (.ireturn, 1) := by decide +kernel
theorem ef_rm1 (m : MethodId) (a1 : Addr) (p2 : Int32) (p3 : Int32) : entryFrame m #[(.ref a1), (.int p2), (.int p3)] 5 = mkF m 0 #[.val (.ref a1), .val (.int p2), .val (.int p3), .unset, .unset] [] := by first | (simp [entryFrame, mkF, argsToLocals, Value.category]; done) | rfl
def Q1 (Z : State) (a1 : Addr) (p2 : Int32) (p3 : Int32) (kt : ClassId) (xs : List Int32) (h0 : Heap) (n0 : Nat) (v : Option Value) (h : Heap) (L : List Loc) : Prop := v = some (.int (own_r 4 p2 p3)) ∧ Fr n0 L ∧ Keep h0 h [a1] ∧ Arv Z h a1 kt .byte (10 : Int32) ((own_w 4 p2 p3 xs).map Value.int) (.int (0 : Int32))
set_option maxRecDepth 65536 in
set_option maxHeartbeats 40000000 in
theorem rm1 (l : Launch) (Z : State) (a0 : Array Value) (hw : ∀ d ∈ tables_1, d.before a0 Z = true) (ws : List Jvm.Cond) (a1 : Addr) (p2 : Int32) (p3 : Int32) (kt : ClassId) (xs : List Int32) (h0 : Heap) (n0 : Nat) (Z0 : n0 ≤ h0.size) (V_a1 : Arv Z h0 a1 kt .byte (10 : Int32) (xs.map Value.int) (.int (0 : Int32))) (g_a1 : n0 ≤ a1) (hat : 0 ≤ p2.toInt ∧ p2.toInt ≤ 3) (hn : 0 ≤ p3.toInt) (hl : xs.length = 10) :
    MetFree l (⟨"com/example/drienerlo/drienerlo/index/Varint", "write", "([BII)I"⟩ : MethodName) (head1 (Jvm.Cond.code (⟨"com/example/drienerlo/drienerlo/index/Varint", "write", "([BII)I"⟩ : MethodName) prog_36_method_2_code 5 (some .int) :: ws) ({ frames := 0, cells := 0, slots := 0, locals := 0 } : Room)) (fun a U => a = #[(.ref a1), (.int p2), (.int p3)] ∧ Z.Warmed39 U.vm ∧ U.heap = h0) (fun _ _ _ _ _ => True) (fun _ U o U' => ∃ v L, o = .returned v ∧ Q1 Z a1 p2 p3 kt xs h0 n0 v U'.heap L ∧ FrameEnd U o U' L ({ frames := 0, cells := 0, slots := 0, locals := 0 } : Room).cells ({ frames := 0, cells := 0, slots := 0, locals := 0 } : Room).slots) := by
  refine MetFree.of_bodySF (plainFor_of_name pn_0) hisR ?_
  intro p e s m args below meth c s₁ Bd hml0 hP hK
  obtain ⟨rfl, hZ, hh⟩ := hP
  have hx := Bd.exec
  have hby := Bd.bytes
  have hml : c.maxLocals = 5 := hml0
  have hown : s.vm.findClass "com/example/drienerlo/drienerlo/index/Varint" = some m.cls := findClass_of_methodNamed Bd.named
  have hnm := (name_of_methodNamed Bd.named Bd.method).1
  have X0 : Stand p l e ({ frames := 0, cells := 0, slots := 0, locals := 0 } : Room) s m #[(.ref a1), (.int p2), (.int p3)] below meth c s₁ [] 0 0 := Stand.of_body Bd
  have e0 : s₁.heap = h0 := by rw [← hh, Bd.state]; rfl
  have N0 := Fr.nil n0
  have hj1 := own_inc p2 (by omega)
  have hj2 : (((p2 + (1 : Int32)) + (1 : Int32))).toInt = p2.toInt + 2 := by rw [own_inc _ (by rw [hj1]; omega), hj1]; omega
  have hj3 : ((((p2 + (1 : Int32)) + (1 : Int32)) + (1 : Int32))).toInt = p2.toInt + 3 := by rw [own_inc _ (by rw [hj2]; omega), hj2]; omega
  have hj4 : (((((p2 + (1 : Int32)) + (1 : Int32)) + (1 : Int32)) + (1 : Int32))).toInt = p2.toInt + 4 := by rw [own_inc _ (by rw [hj3]; omega), hj3]; omega
  show Go p e below (PP s below (Q1 Z a1 p2 p3 kt xs h0 n0) ({ frames := 0, cells := 0, slots := 0, locals := 0 } : Room).cells ({ frames := 0, cells := 0, slots := 0, locals := 0 } : Room).slots) (s₁.setTop (entryFrame m #[(.ref a1), (.int p2), (.int p3)] 5))
  refine go (fun _ k => castTop (ef_rm1 m a1 p2 p3) k) ?_
  show Go p e below _ (s₁.setTop (mkF m 0 #[.val (.ref a1), .val (.int p2), .val (.int p3), .unset, .unset] []))
  refine go (fun _ k => XS.iloadN X0.here hx rfl (hb hby d1_0) rfl  k) ?_
  show Go p e below _ (s₁.setTop (mkF m 1 #[.val (.ref a1), .val (.int p2), .val (.int p3), .unset, .unset] [(.int p2)]))
  refine go (fun _ k => XS.istoreN X0.here hx rfl (hb hby d1_1) rfl (l' := #[.val (.ref a1), .val (.int p2), .val (.int p3), .val (.int p2), .unset]) rfl k) ?_
  show Go p e below _ (s₁.setTop (mkF m 2 #[.val (.ref a1), .val (.int p2), .val (.int p3), .val (.int p2), .unset] []))
  refine go (fun _ k => XS.iloadN X0.here hx rfl (hb hby d1_2) rfl  k) ?_
  show Go p e below _ (s₁.setTop (mkF m 3 #[.val (.ref a1), .val (.int p2), .val (.int p3), .val (.int p2), .unset] [(.int p3)]))
  refine go (fun _ k => XS.istore X0.here hx rfl (hb hby d1_3) rfl (l' := #[.val (.ref a1), .val (.int p2), .val (.int p3), .val (.int p2), .val (.int p3)]) rfl k) ?_
  show Go p e below _ (s₁.setTop (mkF m 5 #[.val (.ref a1), .val (.int p2), .val (.int p3), .val (.int p2), .val (.int p3)] []))
  refine go (fun _ k => XS.iload X0.here hx rfl (hb hby d1_5) rfl  k) ?_
  show Go p e below _ (s₁.setTop (mkF m 7 #[.val (.ref a1), .val (.int p2), .val (.int p3), .val (.int p2), .val (.int p3)] [(.int p3)]))
  refine go (fun _ k => XS.sipush X0.here hx rfl (hb hby d1_7) k) ?_
  show Go p e below _ (s₁.setTop (mkF m 10 #[.val (.ref a1), .val (.int p2), .val (.int p3), .val (.int p2), .val (.int p3)] [(.int (128 : Int32)), (.int p3)]))
  by_cases hc10_1 : p3 < (128 : Int32)
  · skip
    refine go (fun _ k => XS.icmpYes X0.here hx rfl (pc0 := 10) (pc' := 36) rfl (hb hby d1_10) rfl (tlt hc10_1).1 (by decide) (by decide) k) ?_
    show Go p e below _ (s₁.setTop (mkF m 36 #[.val (.ref a1), .val (.int p2), .val (.int p3), .val (.int p2), .val (.int p3)] []))
    refine go (fun _ k => XS.aloadN X0.here hx rfl (hb hby d1_36) rfl rfl  k) ?_
    show Go p e below _ (s₁.setTop (mkF m 37 #[.val (.ref a1), .val (.int p2), .val (.int p3), .val (.int p2), .val (.int p3)] [(.ref a1)]))
    refine go (fun _ k => XS.iloadN X0.here hx rfl (hb hby d1_37) rfl  k) ?_
    show Go p e below _ (s₁.setTop (mkF m 38 #[.val (.ref a1), .val (.int p2), .val (.int p3), .val (.int p2), .val (.int p3)] [(.int p2), (.ref a1)]))
    refine go (fun _ k => XS.iload X0.here hx rfl (hb hby d1_38) rfl  k) ?_
    show Go p e below _ (s₁.setTop (mkF m 40 #[.val (.ref a1), .val (.int p2), .val (.int p3), .val (.int p2), .val (.int p3)] [(.int p3), (.int p2), (.ref a1)]))
    refine go (fun _ k => XS.i2b X0.here hx rfl (hb hby d1_40) rfl k) ?_
    show Go p e below _ (s₁.setTop (mkF m 41 #[.val (.ref a1), .val (.int p2), .val (.int p3), .val (.int p2), .val (.int p3)] [(.int (p3.toInt8.toInt32)), (.int p2), (.ref a1)]))
    obtain ⟨cl1, Ar1, q1, S1, M1, H1, G1⟩ := V_a1
    have hin1 : ¬ (p2 < 0 ∨ cl1.slots.size ≤ (p2).toNatClampNeg) := inb_of S1 (own_j hat 0 (by decide) (by simp))
    obtain ⟨T1, h1, X1, e1, W1, st1⟩ := stB X0 hx hZ e0 Ar1 (j := p2) hin1 (g := (mkF m 41 #[.val (.ref a1), .val (.int p2), .val (.int p3), .val (.int p2), .val (.int p3)] [(.int (p3.toInt8.toInt32)), (.int p2), (.ref a1)])) rfl rfl (hb hby d1_41)
    have V1 := Arv.set Ar1 q1 S1 M1 H1 G1 (fits_nar_byte _) W1 (p2).toNatClampNeg rfl (by simp only [List.length_set, List.length_map, hl]; exact own_jn hat 0 (by decide) (by simp))
    have V_a1_1 : Arv Z h1 a1 kt .byte (10 : Int32) ((xs.map Value.int).set ((p2).toNatClampNeg) (.int (nar .byte (p3.toInt8.toInt32)))) (.int (0 : Int32)) := V1
    have N1 := Fr.snoc X1 N0 g_a1
    refine go st1 ?_
    show Go p e below _ (T1.setTop (mkF m 42 #[.val (.ref a1), .val (.int p2), .val (.int p3), .val (.int p2), .val (.int p3)] []))
    refine go (fun _ k => XS.iloadN X1.here hx rfl (hb hby d1_42) rfl  k) ?_
    show Go p e below _ (T1.setTop (mkF m 43 #[.val (.ref a1), .val (.int p2), .val (.int p3), .val (.int p2), .val (.int p3)] [(.int p2)]))
    refine go (fun _ k => XS.iconst X1.here hx rfl (hb hby d1_43) k) ?_
    show Go p e below _ (T1.setTop (mkF m 44 #[.val (.ref a1), .val (.int p2), .val (.int p3), .val (.int p2), .val (.int p3)] [(.int (1 : Int32)), (.int p2)]))
    refine go (fun _ k => XS.iadd X1.here hx rfl (hb hby d1_44) rfl k) ?_
    show Go p e below _ (T1.setTop (mkF m 45 #[.val (.ref a1), .val (.int p2), .val (.int p3), .val (.int p2), .val (.int p3)] [(.int (p2 + (1 : Int32)))]))
    obtain ⟨fs, hr, hrun, hended, hW, hsame⟩ := X1.leave (v := some (.int (p2 + (1 : Int32)))) (fun h => by rw [Bd.returns] at h; cases h)
    have K2 : Keep h0 h1 [a1] := ((Keep.refl h0 [a1]).wr W1 (Or.inl (List.mem_of_getElem? (i := 0) rfl)))
    refine leaf (T := T1) ⟨fs, retI X1 hx Bd.returns (hb hby d1_45) hr, hrun, hended, hW, hsame⟩ ?_ (by decide) (by decide)
    show Q1 Z a1 p2 p3 kt xs h0 n0 _ T1.heap _
    rw [e1]
    exact ⟨(by simp only [own_r, if_pos (show p3 < (128 : Int32) from hc10_1)]), N1, K2, (by simp only [own_w, if_pos (show p3 < (128 : Int32) from hc10_1), List.map_set]; exact V_a1_1)⟩
  · skip
    refine go (fun _ k => XS.icmpNo X0.here hx rfl (hb hby d1_10) rfl (flt hc10_1).1 k) ?_
    show Go p e below _ (s₁.setTop (mkF m 13 #[.val (.ref a1), .val (.int p2), .val (.int p3), .val (.int p2), .val (.int p3)] []))
    refine go (fun _ k => XS.aloadN X0.here hx rfl (hb hby d1_13) rfl rfl  k) ?_
    show Go p e below _ (s₁.setTop (mkF m 14 #[.val (.ref a1), .val (.int p2), .val (.int p3), .val (.int p2), .val (.int p3)] [(.ref a1)]))
    refine go (fun _ k => XS.iloadN X0.here hx rfl (hb hby d1_14) rfl  k) ?_
    show Go p e below _ (s₁.setTop (mkF m 15 #[.val (.ref a1), .val (.int p2), .val (.int p3), .val (.int p2), .val (.int p3)] [(.int p2), (.ref a1)]))
    refine go (fun _ k => XS.iload X0.here hx rfl (hb hby d1_15) rfl  k) ?_
    show Go p e below _ (s₁.setTop (mkF m 17 #[.val (.ref a1), .val (.int p2), .val (.int p3), .val (.int p2), .val (.int p3)] [(.int p3), (.int p2), (.ref a1)]))
    refine go (fun _ k => XS.sipush X0.here hx rfl (hb hby d1_17) k) ?_
    show Go p e below _ (s₁.setTop (mkF m 20 #[.val (.ref a1), .val (.int p2), .val (.int p3), .val (.int p2), .val (.int p3)] [(.int (128 : Int32)), (.int p3), (.int p2), (.ref a1)]))
    refine go (fun _ k => XS.ior X0.here hx rfl (hb hby d1_20) rfl k) ?_
    show Go p e below _ (s₁.setTop (mkF m 21 #[.val (.ref a1), .val (.int p2), .val (.int p3), .val (.int p2), .val (.int p3)] [(.int (p3 ||| (128 : Int32))), (.int p2), (.ref a1)]))
    refine go (fun _ k => XS.i2b X0.here hx rfl (hb hby d1_21) rfl k) ?_
    show Go p e below _ (s₁.setTop (mkF m 22 #[.val (.ref a1), .val (.int p2), .val (.int p3), .val (.int p2), .val (.int p3)] [(.int ((p3 ||| (128 : Int32)).toInt8.toInt32)), (.int p2), (.ref a1)]))
    obtain ⟨cl3, Ar3, q3, S3, M3, H3, G3⟩ := V_a1
    have hin3 : ¬ (p2 < 0 ∨ cl3.slots.size ≤ (p2).toNatClampNeg) := inb_of S3 (own_j hat 0 (by decide) (by simp))
    obtain ⟨T3, h3, X3, e3, W3, st3⟩ := stB X0 hx hZ e0 Ar3 (j := p2) hin3 (g := (mkF m 22 #[.val (.ref a1), .val (.int p2), .val (.int p3), .val (.int p2), .val (.int p3)] [(.int ((p3 ||| (128 : Int32)).toInt8.toInt32)), (.int p2), (.ref a1)])) rfl rfl (hb hby d1_22)
    have V3 := Arv.set Ar3 q3 S3 M3 H3 G3 (fits_nar_byte _) W3 (p2).toNatClampNeg rfl (by simp only [List.length_set, List.length_map, hl]; exact own_jn hat 0 (by decide) (by simp))
    have V_a1_3 : Arv Z h3 a1 kt .byte (10 : Int32) ((xs.map Value.int).set ((p2).toNatClampNeg) (.int (nar .byte ((p3 ||| (128 : Int32)).toInt8.toInt32)))) (.int (0 : Int32)) := V3
    have N3 := Fr.snoc X3 N0 g_a1
    refine go st3 ?_
    show Go p e below _ (T3.setTop (mkF m 23 #[.val (.ref a1), .val (.int p2), .val (.int p3), .val (.int p2), .val (.int p3)] []))
    refine go (fun _ k => XS.iinc X3.here hx rfl (hb hby d1_23) rfl (l' := #[.val (.ref a1), .val (.int p2), .val (.int p3), .val (.int (p2 + (1 : Int32))), .val (.int p3)]) rfl k) ?_
    show Go p e below _ (T3.setTop (mkF m 26 #[.val (.ref a1), .val (.int p2), .val (.int p3), .val (.int (p2 + (1 : Int32))), .val (.int p3)] []))
    refine go (fun _ k => XS.iload X3.here hx rfl (hb hby d1_26) rfl  k) ?_
    show Go p e below _ (T3.setTop (mkF m 28 #[.val (.ref a1), .val (.int p2), .val (.int p3), .val (.int (p2 + (1 : Int32))), .val (.int p3)] [(.int p3)]))
    refine go (fun _ k => XS.bipush X3.here hx rfl (hb hby d1_28) k) ?_
    show Go p e below _ (T3.setTop (mkF m 30 #[.val (.ref a1), .val (.int p2), .val (.int p3), .val (.int (p2 + (1 : Int32))), .val (.int p3)] [(.int (7 : Int32)), (.int p3)]))
    refine go (fun _ k => XS.iushr X3.here hx rfl (hb hby d1_30) rfl k) ?_
    show Go p e below _ (T3.setTop (mkF m 31 #[.val (.ref a1), .val (.int p2), .val (.int p3), .val (.int (p2 + (1 : Int32))), .val (.int p3)] [(.int ((p3.toUInt32 >>> ((7 : Int32) &&& 31).toUInt32).toInt32))]))
    refine go (fun _ k => XS.istore X3.here hx rfl (hb hby d1_31) rfl (l' := #[.val (.ref a1), .val (.int p2), .val (.int p3), .val (.int (p2 + (1 : Int32))), .val (.int ((p3.toUInt32 >>> ((7 : Int32) &&& 31).toUInt32).toInt32))]) rfl k) ?_
    show Go p e below _ (T3.setTop (mkF m 33 #[.val (.ref a1), .val (.int p2), .val (.int p3), .val (.int (p2 + (1 : Int32))), .val (.int ((p3.toUInt32 >>> ((7 : Int32) &&& 31).toUInt32).toInt32))] []))
    refine go (fun _ k => XS.goto X3.here hx rfl (pc0 := 33) (pc' := 5) rfl (hb hby d1_33) (by decide) (by decide) k) ?_
    show Go p e below _ (T3.setTop (mkF m 5 #[.val (.ref a1), .val (.int p2), .val (.int p3), .val (.int (p2 + (1 : Int32))), .val (.int ((p3.toUInt32 >>> ((7 : Int32) &&& 31).toUInt32).toInt32))] []))
    refine go (fun _ k => XS.iload X3.here hx rfl (hb hby d1_5) rfl  k) ?_
    show Go p e below _ (T3.setTop (mkF m 7 #[.val (.ref a1), .val (.int p2), .val (.int p3), .val (.int (p2 + (1 : Int32))), .val (.int ((p3.toUInt32 >>> ((7 : Int32) &&& 31).toUInt32).toInt32))] [(.int ((p3.toUInt32 >>> ((7 : Int32) &&& 31).toUInt32).toInt32))]))
    refine go (fun _ k => XS.sipush X3.here hx rfl (hb hby d1_7) k) ?_
    show Go p e below _ (T3.setTop (mkF m 10 #[.val (.ref a1), .val (.int p2), .val (.int p3), .val (.int (p2 + (1 : Int32))), .val (.int ((p3.toUInt32 >>> ((7 : Int32) &&& 31).toUInt32).toInt32))] [(.int (128 : Int32)), (.int ((p3.toUInt32 >>> ((7 : Int32) &&& 31).toUInt32).toInt32))]))
    by_cases hc10_2 : ((p3.toUInt32 >>> ((7 : Int32) &&& 31).toUInt32).toInt32) < (128 : Int32)
    · skip
      refine go (fun _ k => XS.icmpYes X3.here hx rfl (pc0 := 10) (pc' := 36) rfl (hb hby d1_10) rfl (tlt hc10_2).1 (by decide) (by decide) k) ?_
      show Go p e below _ (T3.setTop (mkF m 36 #[.val (.ref a1), .val (.int p2), .val (.int p3), .val (.int (p2 + (1 : Int32))), .val (.int ((p3.toUInt32 >>> ((7 : Int32) &&& 31).toUInt32).toInt32))] []))
      refine go (fun _ k => XS.aloadN X3.here hx rfl (hb hby d1_36) rfl rfl  k) ?_
      show Go p e below _ (T3.setTop (mkF m 37 #[.val (.ref a1), .val (.int p2), .val (.int p3), .val (.int (p2 + (1 : Int32))), .val (.int ((p3.toUInt32 >>> ((7 : Int32) &&& 31).toUInt32).toInt32))] [(.ref a1)]))
      refine go (fun _ k => XS.iloadN X3.here hx rfl (hb hby d1_37) rfl  k) ?_
      show Go p e below _ (T3.setTop (mkF m 38 #[.val (.ref a1), .val (.int p2), .val (.int p3), .val (.int (p2 + (1 : Int32))), .val (.int ((p3.toUInt32 >>> ((7 : Int32) &&& 31).toUInt32).toInt32))] [(.int (p2 + (1 : Int32))), (.ref a1)]))
      refine go (fun _ k => XS.iload X3.here hx rfl (hb hby d1_38) rfl  k) ?_
      show Go p e below _ (T3.setTop (mkF m 40 #[.val (.ref a1), .val (.int p2), .val (.int p3), .val (.int (p2 + (1 : Int32))), .val (.int ((p3.toUInt32 >>> ((7 : Int32) &&& 31).toUInt32).toInt32))] [(.int ((p3.toUInt32 >>> ((7 : Int32) &&& 31).toUInt32).toInt32)), (.int (p2 + (1 : Int32))), (.ref a1)]))
      refine go (fun _ k => XS.i2b X3.here hx rfl (hb hby d1_40) rfl k) ?_
      show Go p e below _ (T3.setTop (mkF m 41 #[.val (.ref a1), .val (.int p2), .val (.int p3), .val (.int (p2 + (1 : Int32))), .val (.int ((p3.toUInt32 >>> ((7 : Int32) &&& 31).toUInt32).toInt32))] [(.int (((p3.toUInt32 >>> ((7 : Int32) &&& 31).toUInt32).toInt32).toInt8.toInt32)), (.int (p2 + (1 : Int32))), (.ref a1)]))
      obtain ⟨cl4, Ar4, q4, S4, M4, H4, G4⟩ := V_a1_3
      have hin4 : ¬ ((p2 + (1 : Int32)) < 0 ∨ cl4.slots.size ≤ ((p2 + (1 : Int32))).toNatClampNeg) := inb_of S4 (own_j hat 1 (by decide) hj1)
      obtain ⟨T4, h4, X4, e4, W4, st4⟩ := stB X3 hx hZ e3 Ar4 (j := (p2 + (1 : Int32))) hin4 (g := (mkF m 41 #[.val (.ref a1), .val (.int p2), .val (.int p3), .val (.int (p2 + (1 : Int32))), .val (.int ((p3.toUInt32 >>> ((7 : Int32) &&& 31).toUInt32).toInt32))] [(.int (((p3.toUInt32 >>> ((7 : Int32) &&& 31).toUInt32).toInt32).toInt8.toInt32)), (.int (p2 + (1 : Int32))), (.ref a1)])) rfl rfl (hb hby d1_41)
      have V4 := Arv.set Ar4 q4 S4 M4 H4 G4 (fits_nar_byte _) W4 ((p2 + (1 : Int32))).toNatClampNeg rfl (by simp only [List.length_set, List.length_map, hl]; exact own_jn hat 1 (by decide) hj1)
      have V_a1_4 : Arv Z h4 a1 kt .byte (10 : Int32) (((xs.map Value.int).set ((p2).toNatClampNeg) (.int (nar .byte ((p3 ||| (128 : Int32)).toInt8.toInt32)))).set (((p2 + (1 : Int32))).toNatClampNeg) (.int (nar .byte (((p3.toUInt32 >>> ((7 : Int32) &&& 31).toUInt32).toInt32).toInt8.toInt32)))) (.int (0 : Int32)) := V4
      have N4 := Fr.snoc X4 N3 g_a1
      refine go st4 ?_
      show Go p e below _ (T4.setTop (mkF m 42 #[.val (.ref a1), .val (.int p2), .val (.int p3), .val (.int (p2 + (1 : Int32))), .val (.int ((p3.toUInt32 >>> ((7 : Int32) &&& 31).toUInt32).toInt32))] []))
      refine go (fun _ k => XS.iloadN X4.here hx rfl (hb hby d1_42) rfl  k) ?_
      show Go p e below _ (T4.setTop (mkF m 43 #[.val (.ref a1), .val (.int p2), .val (.int p3), .val (.int (p2 + (1 : Int32))), .val (.int ((p3.toUInt32 >>> ((7 : Int32) &&& 31).toUInt32).toInt32))] [(.int (p2 + (1 : Int32)))]))
      refine go (fun _ k => XS.iconst X4.here hx rfl (hb hby d1_43) k) ?_
      show Go p e below _ (T4.setTop (mkF m 44 #[.val (.ref a1), .val (.int p2), .val (.int p3), .val (.int (p2 + (1 : Int32))), .val (.int ((p3.toUInt32 >>> ((7 : Int32) &&& 31).toUInt32).toInt32))] [(.int (1 : Int32)), (.int (p2 + (1 : Int32)))]))
      refine go (fun _ k => XS.iadd X4.here hx rfl (hb hby d1_44) rfl k) ?_
      show Go p e below _ (T4.setTop (mkF m 45 #[.val (.ref a1), .val (.int p2), .val (.int p3), .val (.int (p2 + (1 : Int32))), .val (.int ((p3.toUInt32 >>> ((7 : Int32) &&& 31).toUInt32).toInt32))] [(.int ((p2 + (1 : Int32)) + (1 : Int32)))]))
      obtain ⟨fs, hr, hrun, hended, hW, hsame⟩ := X4.leave (v := some (.int ((p2 + (1 : Int32)) + (1 : Int32)))) (fun h => by rw [Bd.returns] at h; cases h)
      have K5 : Keep h0 h4 [a1] := (((Keep.refl h0 [a1]).wr W3 (Or.inl (List.mem_of_getElem? (i := 0) rfl))).wr W4 (Or.inl (List.mem_of_getElem? (i := 0) rfl)))
      refine leaf (T := T4) ⟨fs, retI X4 hx Bd.returns (hb hby d1_45) hr, hrun, hended, hW, hsame⟩ ?_ (by decide) (by decide)
      show Q1 Z a1 p2 p3 kt xs h0 n0 _ T4.heap _
      rw [e4]
      exact ⟨(by simp only [own_r, if_neg (show ¬ (p3 < (128 : Int32)) from hc10_1), if_pos (show own_s (p3) < (128 : Int32) from hc10_2)]), N4, K5, (by simp only [own_w, if_neg (show ¬ (p3 < (128 : Int32)) from hc10_1), if_pos (show own_s (p3) < (128 : Int32) from hc10_2), List.map_set]; exact V_a1_4)⟩
    · skip
      refine go (fun _ k => XS.icmpNo X3.here hx rfl (hb hby d1_10) rfl (flt hc10_2).1 k) ?_
      show Go p e below _ (T3.setTop (mkF m 13 #[.val (.ref a1), .val (.int p2), .val (.int p3), .val (.int (p2 + (1 : Int32))), .val (.int ((p3.toUInt32 >>> ((7 : Int32) &&& 31).toUInt32).toInt32))] []))
      refine go (fun _ k => XS.aloadN X3.here hx rfl (hb hby d1_13) rfl rfl  k) ?_
      show Go p e below _ (T3.setTop (mkF m 14 #[.val (.ref a1), .val (.int p2), .val (.int p3), .val (.int (p2 + (1 : Int32))), .val (.int ((p3.toUInt32 >>> ((7 : Int32) &&& 31).toUInt32).toInt32))] [(.ref a1)]))
      refine go (fun _ k => XS.iloadN X3.here hx rfl (hb hby d1_14) rfl  k) ?_
      show Go p e below _ (T3.setTop (mkF m 15 #[.val (.ref a1), .val (.int p2), .val (.int p3), .val (.int (p2 + (1 : Int32))), .val (.int ((p3.toUInt32 >>> ((7 : Int32) &&& 31).toUInt32).toInt32))] [(.int (p2 + (1 : Int32))), (.ref a1)]))
      refine go (fun _ k => XS.iload X3.here hx rfl (hb hby d1_15) rfl  k) ?_
      show Go p e below _ (T3.setTop (mkF m 17 #[.val (.ref a1), .val (.int p2), .val (.int p3), .val (.int (p2 + (1 : Int32))), .val (.int ((p3.toUInt32 >>> ((7 : Int32) &&& 31).toUInt32).toInt32))] [(.int ((p3.toUInt32 >>> ((7 : Int32) &&& 31).toUInt32).toInt32)), (.int (p2 + (1 : Int32))), (.ref a1)]))
      refine go (fun _ k => XS.sipush X3.here hx rfl (hb hby d1_17) k) ?_
      show Go p e below _ (T3.setTop (mkF m 20 #[.val (.ref a1), .val (.int p2), .val (.int p3), .val (.int (p2 + (1 : Int32))), .val (.int ((p3.toUInt32 >>> ((7 : Int32) &&& 31).toUInt32).toInt32))] [(.int (128 : Int32)), (.int ((p3.toUInt32 >>> ((7 : Int32) &&& 31).toUInt32).toInt32)), (.int (p2 + (1 : Int32))), (.ref a1)]))
      refine go (fun _ k => XS.ior X3.here hx rfl (hb hby d1_20) rfl k) ?_
      show Go p e below _ (T3.setTop (mkF m 21 #[.val (.ref a1), .val (.int p2), .val (.int p3), .val (.int (p2 + (1 : Int32))), .val (.int ((p3.toUInt32 >>> ((7 : Int32) &&& 31).toUInt32).toInt32))] [(.int (((p3.toUInt32 >>> ((7 : Int32) &&& 31).toUInt32).toInt32) ||| (128 : Int32))), (.int (p2 + (1 : Int32))), (.ref a1)]))
      refine go (fun _ k => XS.i2b X3.here hx rfl (hb hby d1_21) rfl k) ?_
      show Go p e below _ (T3.setTop (mkF m 22 #[.val (.ref a1), .val (.int p2), .val (.int p3), .val (.int (p2 + (1 : Int32))), .val (.int ((p3.toUInt32 >>> ((7 : Int32) &&& 31).toUInt32).toInt32))] [(.int ((((p3.toUInt32 >>> ((7 : Int32) &&& 31).toUInt32).toInt32) ||| (128 : Int32)).toInt8.toInt32)), (.int (p2 + (1 : Int32))), (.ref a1)]))
      obtain ⟨cl6, Ar6, q6, S6, M6, H6, G6⟩ := V_a1_3
      have hin6 : ¬ ((p2 + (1 : Int32)) < 0 ∨ cl6.slots.size ≤ ((p2 + (1 : Int32))).toNatClampNeg) := inb_of S6 (own_j hat 1 (by decide) hj1)
      obtain ⟨T6, h6, X6, e6, W6, st6⟩ := stB X3 hx hZ e3 Ar6 (j := (p2 + (1 : Int32))) hin6 (g := (mkF m 22 #[.val (.ref a1), .val (.int p2), .val (.int p3), .val (.int (p2 + (1 : Int32))), .val (.int ((p3.toUInt32 >>> ((7 : Int32) &&& 31).toUInt32).toInt32))] [(.int ((((p3.toUInt32 >>> ((7 : Int32) &&& 31).toUInt32).toInt32) ||| (128 : Int32)).toInt8.toInt32)), (.int (p2 + (1 : Int32))), (.ref a1)])) rfl rfl (hb hby d1_22)
      have V6 := Arv.set Ar6 q6 S6 M6 H6 G6 (fits_nar_byte _) W6 ((p2 + (1 : Int32))).toNatClampNeg rfl (by simp only [List.length_set, List.length_map, hl]; exact own_jn hat 1 (by decide) hj1)
      have V_a1_6 : Arv Z h6 a1 kt .byte (10 : Int32) (((xs.map Value.int).set ((p2).toNatClampNeg) (.int (nar .byte ((p3 ||| (128 : Int32)).toInt8.toInt32)))).set (((p2 + (1 : Int32))).toNatClampNeg) (.int (nar .byte ((((p3.toUInt32 >>> ((7 : Int32) &&& 31).toUInt32).toInt32) ||| (128 : Int32)).toInt8.toInt32)))) (.int (0 : Int32)) := V6
      have N6 := Fr.snoc X6 N3 g_a1
      refine go st6 ?_
      show Go p e below _ (T6.setTop (mkF m 23 #[.val (.ref a1), .val (.int p2), .val (.int p3), .val (.int (p2 + (1 : Int32))), .val (.int ((p3.toUInt32 >>> ((7 : Int32) &&& 31).toUInt32).toInt32))] []))
      refine go (fun _ k => XS.iinc X6.here hx rfl (hb hby d1_23) rfl (l' := #[.val (.ref a1), .val (.int p2), .val (.int p3), .val (.int ((p2 + (1 : Int32)) + (1 : Int32))), .val (.int ((p3.toUInt32 >>> ((7 : Int32) &&& 31).toUInt32).toInt32))]) rfl k) ?_
      show Go p e below _ (T6.setTop (mkF m 26 #[.val (.ref a1), .val (.int p2), .val (.int p3), .val (.int ((p2 + (1 : Int32)) + (1 : Int32))), .val (.int ((p3.toUInt32 >>> ((7 : Int32) &&& 31).toUInt32).toInt32))] []))
      refine go (fun _ k => XS.iload X6.here hx rfl (hb hby d1_26) rfl  k) ?_
      show Go p e below _ (T6.setTop (mkF m 28 #[.val (.ref a1), .val (.int p2), .val (.int p3), .val (.int ((p2 + (1 : Int32)) + (1 : Int32))), .val (.int ((p3.toUInt32 >>> ((7 : Int32) &&& 31).toUInt32).toInt32))] [(.int ((p3.toUInt32 >>> ((7 : Int32) &&& 31).toUInt32).toInt32))]))
      refine go (fun _ k => XS.bipush X6.here hx rfl (hb hby d1_28) k) ?_
      show Go p e below _ (T6.setTop (mkF m 30 #[.val (.ref a1), .val (.int p2), .val (.int p3), .val (.int ((p2 + (1 : Int32)) + (1 : Int32))), .val (.int ((p3.toUInt32 >>> ((7 : Int32) &&& 31).toUInt32).toInt32))] [(.int (7 : Int32)), (.int ((p3.toUInt32 >>> ((7 : Int32) &&& 31).toUInt32).toInt32))]))
      refine go (fun _ k => XS.iushr X6.here hx rfl (hb hby d1_30) rfl k) ?_
      show Go p e below _ (T6.setTop (mkF m 31 #[.val (.ref a1), .val (.int p2), .val (.int p3), .val (.int ((p2 + (1 : Int32)) + (1 : Int32))), .val (.int ((p3.toUInt32 >>> ((7 : Int32) &&& 31).toUInt32).toInt32))] [(.int ((((p3.toUInt32 >>> ((7 : Int32) &&& 31).toUInt32).toInt32).toUInt32 >>> ((7 : Int32) &&& 31).toUInt32).toInt32))]))
      refine go (fun _ k => XS.istore X6.here hx rfl (hb hby d1_31) rfl (l' := #[.val (.ref a1), .val (.int p2), .val (.int p3), .val (.int ((p2 + (1 : Int32)) + (1 : Int32))), .val (.int ((((p3.toUInt32 >>> ((7 : Int32) &&& 31).toUInt32).toInt32).toUInt32 >>> ((7 : Int32) &&& 31).toUInt32).toInt32))]) rfl k) ?_
      show Go p e below _ (T6.setTop (mkF m 33 #[.val (.ref a1), .val (.int p2), .val (.int p3), .val (.int ((p2 + (1 : Int32)) + (1 : Int32))), .val (.int ((((p3.toUInt32 >>> ((7 : Int32) &&& 31).toUInt32).toInt32).toUInt32 >>> ((7 : Int32) &&& 31).toUInt32).toInt32))] []))
      refine go (fun _ k => XS.goto X6.here hx rfl (pc0 := 33) (pc' := 5) rfl (hb hby d1_33) (by decide) (by decide) k) ?_
      show Go p e below _ (T6.setTop (mkF m 5 #[.val (.ref a1), .val (.int p2), .val (.int p3), .val (.int ((p2 + (1 : Int32)) + (1 : Int32))), .val (.int ((((p3.toUInt32 >>> ((7 : Int32) &&& 31).toUInt32).toInt32).toUInt32 >>> ((7 : Int32) &&& 31).toUInt32).toInt32))] []))
      refine go (fun _ k => XS.iload X6.here hx rfl (hb hby d1_5) rfl  k) ?_
      show Go p e below _ (T6.setTop (mkF m 7 #[.val (.ref a1), .val (.int p2), .val (.int p3), .val (.int ((p2 + (1 : Int32)) + (1 : Int32))), .val (.int ((((p3.toUInt32 >>> ((7 : Int32) &&& 31).toUInt32).toInt32).toUInt32 >>> ((7 : Int32) &&& 31).toUInt32).toInt32))] [(.int ((((p3.toUInt32 >>> ((7 : Int32) &&& 31).toUInt32).toInt32).toUInt32 >>> ((7 : Int32) &&& 31).toUInt32).toInt32))]))
      refine go (fun _ k => XS.sipush X6.here hx rfl (hb hby d1_7) k) ?_
      show Go p e below _ (T6.setTop (mkF m 10 #[.val (.ref a1), .val (.int p2), .val (.int p3), .val (.int ((p2 + (1 : Int32)) + (1 : Int32))), .val (.int ((((p3.toUInt32 >>> ((7 : Int32) &&& 31).toUInt32).toInt32).toUInt32 >>> ((7 : Int32) &&& 31).toUInt32).toInt32))] [(.int (128 : Int32)), (.int ((((p3.toUInt32 >>> ((7 : Int32) &&& 31).toUInt32).toInt32).toUInt32 >>> ((7 : Int32) &&& 31).toUInt32).toInt32))]))
      by_cases hc10_3 : ((((p3.toUInt32 >>> ((7 : Int32) &&& 31).toUInt32).toInt32).toUInt32 >>> ((7 : Int32) &&& 31).toUInt32).toInt32) < (128 : Int32)
      · skip
        refine go (fun _ k => XS.icmpYes X6.here hx rfl (pc0 := 10) (pc' := 36) rfl (hb hby d1_10) rfl (tlt hc10_3).1 (by decide) (by decide) k) ?_
        show Go p e below _ (T6.setTop (mkF m 36 #[.val (.ref a1), .val (.int p2), .val (.int p3), .val (.int ((p2 + (1 : Int32)) + (1 : Int32))), .val (.int ((((p3.toUInt32 >>> ((7 : Int32) &&& 31).toUInt32).toInt32).toUInt32 >>> ((7 : Int32) &&& 31).toUInt32).toInt32))] []))
        refine go (fun _ k => XS.aloadN X6.here hx rfl (hb hby d1_36) rfl rfl  k) ?_
        show Go p e below _ (T6.setTop (mkF m 37 #[.val (.ref a1), .val (.int p2), .val (.int p3), .val (.int ((p2 + (1 : Int32)) + (1 : Int32))), .val (.int ((((p3.toUInt32 >>> ((7 : Int32) &&& 31).toUInt32).toInt32).toUInt32 >>> ((7 : Int32) &&& 31).toUInt32).toInt32))] [(.ref a1)]))
        refine go (fun _ k => XS.iloadN X6.here hx rfl (hb hby d1_37) rfl  k) ?_
        show Go p e below _ (T6.setTop (mkF m 38 #[.val (.ref a1), .val (.int p2), .val (.int p3), .val (.int ((p2 + (1 : Int32)) + (1 : Int32))), .val (.int ((((p3.toUInt32 >>> ((7 : Int32) &&& 31).toUInt32).toInt32).toUInt32 >>> ((7 : Int32) &&& 31).toUInt32).toInt32))] [(.int ((p2 + (1 : Int32)) + (1 : Int32))), (.ref a1)]))
        refine go (fun _ k => XS.iload X6.here hx rfl (hb hby d1_38) rfl  k) ?_
        show Go p e below _ (T6.setTop (mkF m 40 #[.val (.ref a1), .val (.int p2), .val (.int p3), .val (.int ((p2 + (1 : Int32)) + (1 : Int32))), .val (.int ((((p3.toUInt32 >>> ((7 : Int32) &&& 31).toUInt32).toInt32).toUInt32 >>> ((7 : Int32) &&& 31).toUInt32).toInt32))] [(.int ((((p3.toUInt32 >>> ((7 : Int32) &&& 31).toUInt32).toInt32).toUInt32 >>> ((7 : Int32) &&& 31).toUInt32).toInt32)), (.int ((p2 + (1 : Int32)) + (1 : Int32))), (.ref a1)]))
        refine go (fun _ k => XS.i2b X6.here hx rfl (hb hby d1_40) rfl k) ?_
        show Go p e below _ (T6.setTop (mkF m 41 #[.val (.ref a1), .val (.int p2), .val (.int p3), .val (.int ((p2 + (1 : Int32)) + (1 : Int32))), .val (.int ((((p3.toUInt32 >>> ((7 : Int32) &&& 31).toUInt32).toInt32).toUInt32 >>> ((7 : Int32) &&& 31).toUInt32).toInt32))] [(.int (((((p3.toUInt32 >>> ((7 : Int32) &&& 31).toUInt32).toInt32).toUInt32 >>> ((7 : Int32) &&& 31).toUInt32).toInt32).toInt8.toInt32)), (.int ((p2 + (1 : Int32)) + (1 : Int32))), (.ref a1)]))
        obtain ⟨cl7, Ar7, q7, S7, M7, H7, G7⟩ := V_a1_6
        have hin7 : ¬ (((p2 + (1 : Int32)) + (1 : Int32)) < 0 ∨ cl7.slots.size ≤ (((p2 + (1 : Int32)) + (1 : Int32))).toNatClampNeg) := inb_of S7 (own_j hat 2 (by decide) hj2)
        obtain ⟨T7, h7, X7, e7, W7, st7⟩ := stB X6 hx hZ e6 Ar7 (j := ((p2 + (1 : Int32)) + (1 : Int32))) hin7 (g := (mkF m 41 #[.val (.ref a1), .val (.int p2), .val (.int p3), .val (.int ((p2 + (1 : Int32)) + (1 : Int32))), .val (.int ((((p3.toUInt32 >>> ((7 : Int32) &&& 31).toUInt32).toInt32).toUInt32 >>> ((7 : Int32) &&& 31).toUInt32).toInt32))] [(.int (((((p3.toUInt32 >>> ((7 : Int32) &&& 31).toUInt32).toInt32).toUInt32 >>> ((7 : Int32) &&& 31).toUInt32).toInt32).toInt8.toInt32)), (.int ((p2 + (1 : Int32)) + (1 : Int32))), (.ref a1)])) rfl rfl (hb hby d1_41)
        have V7 := Arv.set Ar7 q7 S7 M7 H7 G7 (fits_nar_byte _) W7 (((p2 + (1 : Int32)) + (1 : Int32))).toNatClampNeg rfl (by simp only [List.length_set, List.length_map, hl]; exact own_jn hat 2 (by decide) hj2)
        have V_a1_7 : Arv Z h7 a1 kt .byte (10 : Int32) ((((xs.map Value.int).set ((p2).toNatClampNeg) (.int (nar .byte ((p3 ||| (128 : Int32)).toInt8.toInt32)))).set (((p2 + (1 : Int32))).toNatClampNeg) (.int (nar .byte ((((p3.toUInt32 >>> ((7 : Int32) &&& 31).toUInt32).toInt32) ||| (128 : Int32)).toInt8.toInt32)))).set ((((p2 + (1 : Int32)) + (1 : Int32))).toNatClampNeg) (.int (nar .byte (((((p3.toUInt32 >>> ((7 : Int32) &&& 31).toUInt32).toInt32).toUInt32 >>> ((7 : Int32) &&& 31).toUInt32).toInt32).toInt8.toInt32)))) (.int (0 : Int32)) := V7
        have N7 := Fr.snoc X7 N6 g_a1
        refine go st7 ?_
        show Go p e below _ (T7.setTop (mkF m 42 #[.val (.ref a1), .val (.int p2), .val (.int p3), .val (.int ((p2 + (1 : Int32)) + (1 : Int32))), .val (.int ((((p3.toUInt32 >>> ((7 : Int32) &&& 31).toUInt32).toInt32).toUInt32 >>> ((7 : Int32) &&& 31).toUInt32).toInt32))] []))
        refine go (fun _ k => XS.iloadN X7.here hx rfl (hb hby d1_42) rfl  k) ?_
        show Go p e below _ (T7.setTop (mkF m 43 #[.val (.ref a1), .val (.int p2), .val (.int p3), .val (.int ((p2 + (1 : Int32)) + (1 : Int32))), .val (.int ((((p3.toUInt32 >>> ((7 : Int32) &&& 31).toUInt32).toInt32).toUInt32 >>> ((7 : Int32) &&& 31).toUInt32).toInt32))] [(.int ((p2 + (1 : Int32)) + (1 : Int32)))]))
        refine go (fun _ k => XS.iconst X7.here hx rfl (hb hby d1_43) k) ?_
        show Go p e below _ (T7.setTop (mkF m 44 #[.val (.ref a1), .val (.int p2), .val (.int p3), .val (.int ((p2 + (1 : Int32)) + (1 : Int32))), .val (.int ((((p3.toUInt32 >>> ((7 : Int32) &&& 31).toUInt32).toInt32).toUInt32 >>> ((7 : Int32) &&& 31).toUInt32).toInt32))] [(.int (1 : Int32)), (.int ((p2 + (1 : Int32)) + (1 : Int32)))]))
        refine go (fun _ k => XS.iadd X7.here hx rfl (hb hby d1_44) rfl k) ?_
        show Go p e below _ (T7.setTop (mkF m 45 #[.val (.ref a1), .val (.int p2), .val (.int p3), .val (.int ((p2 + (1 : Int32)) + (1 : Int32))), .val (.int ((((p3.toUInt32 >>> ((7 : Int32) &&& 31).toUInt32).toInt32).toUInt32 >>> ((7 : Int32) &&& 31).toUInt32).toInt32))] [(.int (((p2 + (1 : Int32)) + (1 : Int32)) + (1 : Int32)))]))
        obtain ⟨fs, hr, hrun, hended, hW, hsame⟩ := X7.leave (v := some (.int (((p2 + (1 : Int32)) + (1 : Int32)) + (1 : Int32)))) (fun h => by rw [Bd.returns] at h; cases h)
        have K8 : Keep h0 h7 [a1] := ((((Keep.refl h0 [a1]).wr W3 (Or.inl (List.mem_of_getElem? (i := 0) rfl))).wr W6 (Or.inl (List.mem_of_getElem? (i := 0) rfl))).wr W7 (Or.inl (List.mem_of_getElem? (i := 0) rfl)))
        refine leaf (T := T7) ⟨fs, retI X7 hx Bd.returns (hb hby d1_45) hr, hrun, hended, hW, hsame⟩ ?_ (by decide) (by decide)
        show Q1 Z a1 p2 p3 kt xs h0 n0 _ T7.heap _
        rw [e7]
        exact ⟨(by simp only [own_r, if_neg (show ¬ (p3 < (128 : Int32)) from hc10_1), if_neg (show ¬ (own_s (p3) < (128 : Int32)) from hc10_2), if_pos (show own_s (own_s (p3)) < (128 : Int32) from hc10_3)]), N7, K8, (by simp only [own_w, if_neg (show ¬ (p3 < (128 : Int32)) from hc10_1), if_neg (show ¬ (own_s (p3) < (128 : Int32)) from hc10_2), if_pos (show own_s (own_s (p3)) < (128 : Int32) from hc10_3), List.map_set]; exact V_a1_7)⟩
      · skip
        refine go (fun _ k => XS.icmpNo X6.here hx rfl (hb hby d1_10) rfl (flt hc10_3).1 k) ?_
        show Go p e below _ (T6.setTop (mkF m 13 #[.val (.ref a1), .val (.int p2), .val (.int p3), .val (.int ((p2 + (1 : Int32)) + (1 : Int32))), .val (.int ((((p3.toUInt32 >>> ((7 : Int32) &&& 31).toUInt32).toInt32).toUInt32 >>> ((7 : Int32) &&& 31).toUInt32).toInt32))] []))
        refine go (fun _ k => XS.aloadN X6.here hx rfl (hb hby d1_13) rfl rfl  k) ?_
        show Go p e below _ (T6.setTop (mkF m 14 #[.val (.ref a1), .val (.int p2), .val (.int p3), .val (.int ((p2 + (1 : Int32)) + (1 : Int32))), .val (.int ((((p3.toUInt32 >>> ((7 : Int32) &&& 31).toUInt32).toInt32).toUInt32 >>> ((7 : Int32) &&& 31).toUInt32).toInt32))] [(.ref a1)]))
        refine go (fun _ k => XS.iloadN X6.here hx rfl (hb hby d1_14) rfl  k) ?_
        show Go p e below _ (T6.setTop (mkF m 15 #[.val (.ref a1), .val (.int p2), .val (.int p3), .val (.int ((p2 + (1 : Int32)) + (1 : Int32))), .val (.int ((((p3.toUInt32 >>> ((7 : Int32) &&& 31).toUInt32).toInt32).toUInt32 >>> ((7 : Int32) &&& 31).toUInt32).toInt32))] [(.int ((p2 + (1 : Int32)) + (1 : Int32))), (.ref a1)]))
        refine go (fun _ k => XS.iload X6.here hx rfl (hb hby d1_15) rfl  k) ?_
        show Go p e below _ (T6.setTop (mkF m 17 #[.val (.ref a1), .val (.int p2), .val (.int p3), .val (.int ((p2 + (1 : Int32)) + (1 : Int32))), .val (.int ((((p3.toUInt32 >>> ((7 : Int32) &&& 31).toUInt32).toInt32).toUInt32 >>> ((7 : Int32) &&& 31).toUInt32).toInt32))] [(.int ((((p3.toUInt32 >>> ((7 : Int32) &&& 31).toUInt32).toInt32).toUInt32 >>> ((7 : Int32) &&& 31).toUInt32).toInt32)), (.int ((p2 + (1 : Int32)) + (1 : Int32))), (.ref a1)]))
        refine go (fun _ k => XS.sipush X6.here hx rfl (hb hby d1_17) k) ?_
        show Go p e below _ (T6.setTop (mkF m 20 #[.val (.ref a1), .val (.int p2), .val (.int p3), .val (.int ((p2 + (1 : Int32)) + (1 : Int32))), .val (.int ((((p3.toUInt32 >>> ((7 : Int32) &&& 31).toUInt32).toInt32).toUInt32 >>> ((7 : Int32) &&& 31).toUInt32).toInt32))] [(.int (128 : Int32)), (.int ((((p3.toUInt32 >>> ((7 : Int32) &&& 31).toUInt32).toInt32).toUInt32 >>> ((7 : Int32) &&& 31).toUInt32).toInt32)), (.int ((p2 + (1 : Int32)) + (1 : Int32))), (.ref a1)]))
        refine go (fun _ k => XS.ior X6.here hx rfl (hb hby d1_20) rfl k) ?_
        show Go p e below _ (T6.setTop (mkF m 21 #[.val (.ref a1), .val (.int p2), .val (.int p3), .val (.int ((p2 + (1 : Int32)) + (1 : Int32))), .val (.int ((((p3.toUInt32 >>> ((7 : Int32) &&& 31).toUInt32).toInt32).toUInt32 >>> ((7 : Int32) &&& 31).toUInt32).toInt32))] [(.int (((((p3.toUInt32 >>> ((7 : Int32) &&& 31).toUInt32).toInt32).toUInt32 >>> ((7 : Int32) &&& 31).toUInt32).toInt32) ||| (128 : Int32))), (.int ((p2 + (1 : Int32)) + (1 : Int32))), (.ref a1)]))
        refine go (fun _ k => XS.i2b X6.here hx rfl (hb hby d1_21) rfl k) ?_
        show Go p e below _ (T6.setTop (mkF m 22 #[.val (.ref a1), .val (.int p2), .val (.int p3), .val (.int ((p2 + (1 : Int32)) + (1 : Int32))), .val (.int ((((p3.toUInt32 >>> ((7 : Int32) &&& 31).toUInt32).toInt32).toUInt32 >>> ((7 : Int32) &&& 31).toUInt32).toInt32))] [(.int ((((((p3.toUInt32 >>> ((7 : Int32) &&& 31).toUInt32).toInt32).toUInt32 >>> ((7 : Int32) &&& 31).toUInt32).toInt32) ||| (128 : Int32)).toInt8.toInt32)), (.int ((p2 + (1 : Int32)) + (1 : Int32))), (.ref a1)]))
        obtain ⟨cl9, Ar9, q9, S9, M9, H9, G9⟩ := V_a1_6
        have hin9 : ¬ (((p2 + (1 : Int32)) + (1 : Int32)) < 0 ∨ cl9.slots.size ≤ (((p2 + (1 : Int32)) + (1 : Int32))).toNatClampNeg) := inb_of S9 (own_j hat 2 (by decide) hj2)
        obtain ⟨T9, h9, X9, e9, W9, st9⟩ := stB X6 hx hZ e6 Ar9 (j := ((p2 + (1 : Int32)) + (1 : Int32))) hin9 (g := (mkF m 22 #[.val (.ref a1), .val (.int p2), .val (.int p3), .val (.int ((p2 + (1 : Int32)) + (1 : Int32))), .val (.int ((((p3.toUInt32 >>> ((7 : Int32) &&& 31).toUInt32).toInt32).toUInt32 >>> ((7 : Int32) &&& 31).toUInt32).toInt32))] [(.int ((((((p3.toUInt32 >>> ((7 : Int32) &&& 31).toUInt32).toInt32).toUInt32 >>> ((7 : Int32) &&& 31).toUInt32).toInt32) ||| (128 : Int32)).toInt8.toInt32)), (.int ((p2 + (1 : Int32)) + (1 : Int32))), (.ref a1)])) rfl rfl (hb hby d1_22)
        have V9 := Arv.set Ar9 q9 S9 M9 H9 G9 (fits_nar_byte _) W9 (((p2 + (1 : Int32)) + (1 : Int32))).toNatClampNeg rfl (by simp only [List.length_set, List.length_map, hl]; exact own_jn hat 2 (by decide) hj2)
        have V_a1_9 : Arv Z h9 a1 kt .byte (10 : Int32) ((((xs.map Value.int).set ((p2).toNatClampNeg) (.int (nar .byte ((p3 ||| (128 : Int32)).toInt8.toInt32)))).set (((p2 + (1 : Int32))).toNatClampNeg) (.int (nar .byte ((((p3.toUInt32 >>> ((7 : Int32) &&& 31).toUInt32).toInt32) ||| (128 : Int32)).toInt8.toInt32)))).set ((((p2 + (1 : Int32)) + (1 : Int32))).toNatClampNeg) (.int (nar .byte ((((((p3.toUInt32 >>> ((7 : Int32) &&& 31).toUInt32).toInt32).toUInt32 >>> ((7 : Int32) &&& 31).toUInt32).toInt32) ||| (128 : Int32)).toInt8.toInt32)))) (.int (0 : Int32)) := V9
        have N9 := Fr.snoc X9 N6 g_a1
        refine go st9 ?_
        show Go p e below _ (T9.setTop (mkF m 23 #[.val (.ref a1), .val (.int p2), .val (.int p3), .val (.int ((p2 + (1 : Int32)) + (1 : Int32))), .val (.int ((((p3.toUInt32 >>> ((7 : Int32) &&& 31).toUInt32).toInt32).toUInt32 >>> ((7 : Int32) &&& 31).toUInt32).toInt32))] []))
        refine go (fun _ k => XS.iinc X9.here hx rfl (hb hby d1_23) rfl (l' := #[.val (.ref a1), .val (.int p2), .val (.int p3), .val (.int (((p2 + (1 : Int32)) + (1 : Int32)) + (1 : Int32))), .val (.int ((((p3.toUInt32 >>> ((7 : Int32) &&& 31).toUInt32).toInt32).toUInt32 >>> ((7 : Int32) &&& 31).toUInt32).toInt32))]) rfl k) ?_
        show Go p e below _ (T9.setTop (mkF m 26 #[.val (.ref a1), .val (.int p2), .val (.int p3), .val (.int (((p2 + (1 : Int32)) + (1 : Int32)) + (1 : Int32))), .val (.int ((((p3.toUInt32 >>> ((7 : Int32) &&& 31).toUInt32).toInt32).toUInt32 >>> ((7 : Int32) &&& 31).toUInt32).toInt32))] []))
        refine go (fun _ k => XS.iload X9.here hx rfl (hb hby d1_26) rfl  k) ?_
        show Go p e below _ (T9.setTop (mkF m 28 #[.val (.ref a1), .val (.int p2), .val (.int p3), .val (.int (((p2 + (1 : Int32)) + (1 : Int32)) + (1 : Int32))), .val (.int ((((p3.toUInt32 >>> ((7 : Int32) &&& 31).toUInt32).toInt32).toUInt32 >>> ((7 : Int32) &&& 31).toUInt32).toInt32))] [(.int ((((p3.toUInt32 >>> ((7 : Int32) &&& 31).toUInt32).toInt32).toUInt32 >>> ((7 : Int32) &&& 31).toUInt32).toInt32))]))
        refine go (fun _ k => XS.bipush X9.here hx rfl (hb hby d1_28) k) ?_
        show Go p e below _ (T9.setTop (mkF m 30 #[.val (.ref a1), .val (.int p2), .val (.int p3), .val (.int (((p2 + (1 : Int32)) + (1 : Int32)) + (1 : Int32))), .val (.int ((((p3.toUInt32 >>> ((7 : Int32) &&& 31).toUInt32).toInt32).toUInt32 >>> ((7 : Int32) &&& 31).toUInt32).toInt32))] [(.int (7 : Int32)), (.int ((((p3.toUInt32 >>> ((7 : Int32) &&& 31).toUInt32).toInt32).toUInt32 >>> ((7 : Int32) &&& 31).toUInt32).toInt32))]))
        refine go (fun _ k => XS.iushr X9.here hx rfl (hb hby d1_30) rfl k) ?_
        show Go p e below _ (T9.setTop (mkF m 31 #[.val (.ref a1), .val (.int p2), .val (.int p3), .val (.int (((p2 + (1 : Int32)) + (1 : Int32)) + (1 : Int32))), .val (.int ((((p3.toUInt32 >>> ((7 : Int32) &&& 31).toUInt32).toInt32).toUInt32 >>> ((7 : Int32) &&& 31).toUInt32).toInt32))] [(.int ((((((p3.toUInt32 >>> ((7 : Int32) &&& 31).toUInt32).toInt32).toUInt32 >>> ((7 : Int32) &&& 31).toUInt32).toInt32).toUInt32 >>> ((7 : Int32) &&& 31).toUInt32).toInt32))]))
        refine go (fun _ k => XS.istore X9.here hx rfl (hb hby d1_31) rfl (l' := #[.val (.ref a1), .val (.int p2), .val (.int p3), .val (.int (((p2 + (1 : Int32)) + (1 : Int32)) + (1 : Int32))), .val (.int ((((((p3.toUInt32 >>> ((7 : Int32) &&& 31).toUInt32).toInt32).toUInt32 >>> ((7 : Int32) &&& 31).toUInt32).toInt32).toUInt32 >>> ((7 : Int32) &&& 31).toUInt32).toInt32))]) rfl k) ?_
        show Go p e below _ (T9.setTop (mkF m 33 #[.val (.ref a1), .val (.int p2), .val (.int p3), .val (.int (((p2 + (1 : Int32)) + (1 : Int32)) + (1 : Int32))), .val (.int ((((((p3.toUInt32 >>> ((7 : Int32) &&& 31).toUInt32).toInt32).toUInt32 >>> ((7 : Int32) &&& 31).toUInt32).toInt32).toUInt32 >>> ((7 : Int32) &&& 31).toUInt32).toInt32))] []))
        refine go (fun _ k => XS.goto X9.here hx rfl (pc0 := 33) (pc' := 5) rfl (hb hby d1_33) (by decide) (by decide) k) ?_
        show Go p e below _ (T9.setTop (mkF m 5 #[.val (.ref a1), .val (.int p2), .val (.int p3), .val (.int (((p2 + (1 : Int32)) + (1 : Int32)) + (1 : Int32))), .val (.int ((((((p3.toUInt32 >>> ((7 : Int32) &&& 31).toUInt32).toInt32).toUInt32 >>> ((7 : Int32) &&& 31).toUInt32).toInt32).toUInt32 >>> ((7 : Int32) &&& 31).toUInt32).toInt32))] []))
        refine go (fun _ k => XS.iload X9.here hx rfl (hb hby d1_5) rfl  k) ?_
        show Go p e below _ (T9.setTop (mkF m 7 #[.val (.ref a1), .val (.int p2), .val (.int p3), .val (.int (((p2 + (1 : Int32)) + (1 : Int32)) + (1 : Int32))), .val (.int ((((((p3.toUInt32 >>> ((7 : Int32) &&& 31).toUInt32).toInt32).toUInt32 >>> ((7 : Int32) &&& 31).toUInt32).toInt32).toUInt32 >>> ((7 : Int32) &&& 31).toUInt32).toInt32))] [(.int ((((((p3.toUInt32 >>> ((7 : Int32) &&& 31).toUInt32).toInt32).toUInt32 >>> ((7 : Int32) &&& 31).toUInt32).toInt32).toUInt32 >>> ((7 : Int32) &&& 31).toUInt32).toInt32))]))
        refine go (fun _ k => XS.sipush X9.here hx rfl (hb hby d1_7) k) ?_
        show Go p e below _ (T9.setTop (mkF m 10 #[.val (.ref a1), .val (.int p2), .val (.int p3), .val (.int (((p2 + (1 : Int32)) + (1 : Int32)) + (1 : Int32))), .val (.int ((((((p3.toUInt32 >>> ((7 : Int32) &&& 31).toUInt32).toInt32).toUInt32 >>> ((7 : Int32) &&& 31).toUInt32).toInt32).toUInt32 >>> ((7 : Int32) &&& 31).toUInt32).toInt32))] [(.int (128 : Int32)), (.int ((((((p3.toUInt32 >>> ((7 : Int32) &&& 31).toUInt32).toInt32).toUInt32 >>> ((7 : Int32) &&& 31).toUInt32).toInt32).toUInt32 >>> ((7 : Int32) &&& 31).toUInt32).toInt32))]))
        by_cases hc10_4 : ((((((p3.toUInt32 >>> ((7 : Int32) &&& 31).toUInt32).toInt32).toUInt32 >>> ((7 : Int32) &&& 31).toUInt32).toInt32).toUInt32 >>> ((7 : Int32) &&& 31).toUInt32).toInt32) < (128 : Int32)
        · skip
          refine go (fun _ k => XS.icmpYes X9.here hx rfl (pc0 := 10) (pc' := 36) rfl (hb hby d1_10) rfl (tlt hc10_4).1 (by decide) (by decide) k) ?_
          show Go p e below _ (T9.setTop (mkF m 36 #[.val (.ref a1), .val (.int p2), .val (.int p3), .val (.int (((p2 + (1 : Int32)) + (1 : Int32)) + (1 : Int32))), .val (.int ((((((p3.toUInt32 >>> ((7 : Int32) &&& 31).toUInt32).toInt32).toUInt32 >>> ((7 : Int32) &&& 31).toUInt32).toInt32).toUInt32 >>> ((7 : Int32) &&& 31).toUInt32).toInt32))] []))
          refine go (fun _ k => XS.aloadN X9.here hx rfl (hb hby d1_36) rfl rfl  k) ?_
          show Go p e below _ (T9.setTop (mkF m 37 #[.val (.ref a1), .val (.int p2), .val (.int p3), .val (.int (((p2 + (1 : Int32)) + (1 : Int32)) + (1 : Int32))), .val (.int ((((((p3.toUInt32 >>> ((7 : Int32) &&& 31).toUInt32).toInt32).toUInt32 >>> ((7 : Int32) &&& 31).toUInt32).toInt32).toUInt32 >>> ((7 : Int32) &&& 31).toUInt32).toInt32))] [(.ref a1)]))
          refine go (fun _ k => XS.iloadN X9.here hx rfl (hb hby d1_37) rfl  k) ?_
          show Go p e below _ (T9.setTop (mkF m 38 #[.val (.ref a1), .val (.int p2), .val (.int p3), .val (.int (((p2 + (1 : Int32)) + (1 : Int32)) + (1 : Int32))), .val (.int ((((((p3.toUInt32 >>> ((7 : Int32) &&& 31).toUInt32).toInt32).toUInt32 >>> ((7 : Int32) &&& 31).toUInt32).toInt32).toUInt32 >>> ((7 : Int32) &&& 31).toUInt32).toInt32))] [(.int (((p2 + (1 : Int32)) + (1 : Int32)) + (1 : Int32))), (.ref a1)]))
          refine go (fun _ k => XS.iload X9.here hx rfl (hb hby d1_38) rfl  k) ?_
          show Go p e below _ (T9.setTop (mkF m 40 #[.val (.ref a1), .val (.int p2), .val (.int p3), .val (.int (((p2 + (1 : Int32)) + (1 : Int32)) + (1 : Int32))), .val (.int ((((((p3.toUInt32 >>> ((7 : Int32) &&& 31).toUInt32).toInt32).toUInt32 >>> ((7 : Int32) &&& 31).toUInt32).toInt32).toUInt32 >>> ((7 : Int32) &&& 31).toUInt32).toInt32))] [(.int ((((((p3.toUInt32 >>> ((7 : Int32) &&& 31).toUInt32).toInt32).toUInt32 >>> ((7 : Int32) &&& 31).toUInt32).toInt32).toUInt32 >>> ((7 : Int32) &&& 31).toUInt32).toInt32)), (.int (((p2 + (1 : Int32)) + (1 : Int32)) + (1 : Int32))), (.ref a1)]))
          refine go (fun _ k => XS.i2b X9.here hx rfl (hb hby d1_40) rfl k) ?_
          show Go p e below _ (T9.setTop (mkF m 41 #[.val (.ref a1), .val (.int p2), .val (.int p3), .val (.int (((p2 + (1 : Int32)) + (1 : Int32)) + (1 : Int32))), .val (.int ((((((p3.toUInt32 >>> ((7 : Int32) &&& 31).toUInt32).toInt32).toUInt32 >>> ((7 : Int32) &&& 31).toUInt32).toInt32).toUInt32 >>> ((7 : Int32) &&& 31).toUInt32).toInt32))] [(.int (((((((p3.toUInt32 >>> ((7 : Int32) &&& 31).toUInt32).toInt32).toUInt32 >>> ((7 : Int32) &&& 31).toUInt32).toInt32).toUInt32 >>> ((7 : Int32) &&& 31).toUInt32).toInt32).toInt8.toInt32)), (.int (((p2 + (1 : Int32)) + (1 : Int32)) + (1 : Int32))), (.ref a1)]))
          obtain ⟨cl10, Ar10, q10, S10, M10, H10, G10⟩ := V_a1_9
          have hin10 : ¬ ((((p2 + (1 : Int32)) + (1 : Int32)) + (1 : Int32)) < 0 ∨ cl10.slots.size ≤ ((((p2 + (1 : Int32)) + (1 : Int32)) + (1 : Int32))).toNatClampNeg) := inb_of S10 (own_j hat 3 (by decide) hj3)
          obtain ⟨T10, h10, X10, e10, W10, st10⟩ := stB X9 hx hZ e9 Ar10 (j := (((p2 + (1 : Int32)) + (1 : Int32)) + (1 : Int32))) hin10 (g := (mkF m 41 #[.val (.ref a1), .val (.int p2), .val (.int p3), .val (.int (((p2 + (1 : Int32)) + (1 : Int32)) + (1 : Int32))), .val (.int ((((((p3.toUInt32 >>> ((7 : Int32) &&& 31).toUInt32).toInt32).toUInt32 >>> ((7 : Int32) &&& 31).toUInt32).toInt32).toUInt32 >>> ((7 : Int32) &&& 31).toUInt32).toInt32))] [(.int (((((((p3.toUInt32 >>> ((7 : Int32) &&& 31).toUInt32).toInt32).toUInt32 >>> ((7 : Int32) &&& 31).toUInt32).toInt32).toUInt32 >>> ((7 : Int32) &&& 31).toUInt32).toInt32).toInt8.toInt32)), (.int (((p2 + (1 : Int32)) + (1 : Int32)) + (1 : Int32))), (.ref a1)])) rfl rfl (hb hby d1_41)
          have V10 := Arv.set Ar10 q10 S10 M10 H10 G10 (fits_nar_byte _) W10 ((((p2 + (1 : Int32)) + (1 : Int32)) + (1 : Int32))).toNatClampNeg rfl (by simp only [List.length_set, List.length_map, hl]; exact own_jn hat 3 (by decide) hj3)
          have V_a1_10 : Arv Z h10 a1 kt .byte (10 : Int32) (((((xs.map Value.int).set ((p2).toNatClampNeg) (.int (nar .byte ((p3 ||| (128 : Int32)).toInt8.toInt32)))).set (((p2 + (1 : Int32))).toNatClampNeg) (.int (nar .byte ((((p3.toUInt32 >>> ((7 : Int32) &&& 31).toUInt32).toInt32) ||| (128 : Int32)).toInt8.toInt32)))).set ((((p2 + (1 : Int32)) + (1 : Int32))).toNatClampNeg) (.int (nar .byte ((((((p3.toUInt32 >>> ((7 : Int32) &&& 31).toUInt32).toInt32).toUInt32 >>> ((7 : Int32) &&& 31).toUInt32).toInt32) ||| (128 : Int32)).toInt8.toInt32)))).set (((((p2 + (1 : Int32)) + (1 : Int32)) + (1 : Int32))).toNatClampNeg) (.int (nar .byte (((((((p3.toUInt32 >>> ((7 : Int32) &&& 31).toUInt32).toInt32).toUInt32 >>> ((7 : Int32) &&& 31).toUInt32).toInt32).toUInt32 >>> ((7 : Int32) &&& 31).toUInt32).toInt32).toInt8.toInt32)))) (.int (0 : Int32)) := V10
          have N10 := Fr.snoc X10 N9 g_a1
          refine go st10 ?_
          show Go p e below _ (T10.setTop (mkF m 42 #[.val (.ref a1), .val (.int p2), .val (.int p3), .val (.int (((p2 + (1 : Int32)) + (1 : Int32)) + (1 : Int32))), .val (.int ((((((p3.toUInt32 >>> ((7 : Int32) &&& 31).toUInt32).toInt32).toUInt32 >>> ((7 : Int32) &&& 31).toUInt32).toInt32).toUInt32 >>> ((7 : Int32) &&& 31).toUInt32).toInt32))] []))
          refine go (fun _ k => XS.iloadN X10.here hx rfl (hb hby d1_42) rfl  k) ?_
          show Go p e below _ (T10.setTop (mkF m 43 #[.val (.ref a1), .val (.int p2), .val (.int p3), .val (.int (((p2 + (1 : Int32)) + (1 : Int32)) + (1 : Int32))), .val (.int ((((((p3.toUInt32 >>> ((7 : Int32) &&& 31).toUInt32).toInt32).toUInt32 >>> ((7 : Int32) &&& 31).toUInt32).toInt32).toUInt32 >>> ((7 : Int32) &&& 31).toUInt32).toInt32))] [(.int (((p2 + (1 : Int32)) + (1 : Int32)) + (1 : Int32)))]))
          refine go (fun _ k => XS.iconst X10.here hx rfl (hb hby d1_43) k) ?_
          show Go p e below _ (T10.setTop (mkF m 44 #[.val (.ref a1), .val (.int p2), .val (.int p3), .val (.int (((p2 + (1 : Int32)) + (1 : Int32)) + (1 : Int32))), .val (.int ((((((p3.toUInt32 >>> ((7 : Int32) &&& 31).toUInt32).toInt32).toUInt32 >>> ((7 : Int32) &&& 31).toUInt32).toInt32).toUInt32 >>> ((7 : Int32) &&& 31).toUInt32).toInt32))] [(.int (1 : Int32)), (.int (((p2 + (1 : Int32)) + (1 : Int32)) + (1 : Int32)))]))
          refine go (fun _ k => XS.iadd X10.here hx rfl (hb hby d1_44) rfl k) ?_
          show Go p e below _ (T10.setTop (mkF m 45 #[.val (.ref a1), .val (.int p2), .val (.int p3), .val (.int (((p2 + (1 : Int32)) + (1 : Int32)) + (1 : Int32))), .val (.int ((((((p3.toUInt32 >>> ((7 : Int32) &&& 31).toUInt32).toInt32).toUInt32 >>> ((7 : Int32) &&& 31).toUInt32).toInt32).toUInt32 >>> ((7 : Int32) &&& 31).toUInt32).toInt32))] [(.int ((((p2 + (1 : Int32)) + (1 : Int32)) + (1 : Int32)) + (1 : Int32)))]))
          obtain ⟨fs, hr, hrun, hended, hW, hsame⟩ := X10.leave (v := some (.int ((((p2 + (1 : Int32)) + (1 : Int32)) + (1 : Int32)) + (1 : Int32)))) (fun h => by rw [Bd.returns] at h; cases h)
          have K11 : Keep h0 h10 [a1] := (((((Keep.refl h0 [a1]).wr W3 (Or.inl (List.mem_of_getElem? (i := 0) rfl))).wr W6 (Or.inl (List.mem_of_getElem? (i := 0) rfl))).wr W9 (Or.inl (List.mem_of_getElem? (i := 0) rfl))).wr W10 (Or.inl (List.mem_of_getElem? (i := 0) rfl)))
          refine leaf (T := T10) ⟨fs, retI X10 hx Bd.returns (hb hby d1_45) hr, hrun, hended, hW, hsame⟩ ?_ (by decide) (by decide)
          show Q1 Z a1 p2 p3 kt xs h0 n0 _ T10.heap _
          rw [e10]
          exact ⟨(by simp only [own_r, if_neg (show ¬ (p3 < (128 : Int32)) from hc10_1), if_neg (show ¬ (own_s (p3) < (128 : Int32)) from hc10_2), if_neg (show ¬ (own_s (own_s (p3)) < (128 : Int32)) from hc10_3), if_pos (show own_s (own_s (own_s (p3))) < (128 : Int32) from hc10_4)]), N10, K11, (by simp only [own_w, if_neg (show ¬ (p3 < (128 : Int32)) from hc10_1), if_neg (show ¬ (own_s (p3) < (128 : Int32)) from hc10_2), if_neg (show ¬ (own_s (own_s (p3)) < (128 : Int32)) from hc10_3), if_pos (show own_s (own_s (own_s (p3))) < (128 : Int32) from hc10_4), List.map_set]; exact V_a1_10)⟩
        · skip
          refine go (fun _ k => XS.icmpNo X9.here hx rfl (hb hby d1_10) rfl (flt hc10_4).1 k) ?_
          show Go p e below _ (T9.setTop (mkF m 13 #[.val (.ref a1), .val (.int p2), .val (.int p3), .val (.int (((p2 + (1 : Int32)) + (1 : Int32)) + (1 : Int32))), .val (.int ((((((p3.toUInt32 >>> ((7 : Int32) &&& 31).toUInt32).toInt32).toUInt32 >>> ((7 : Int32) &&& 31).toUInt32).toInt32).toUInt32 >>> ((7 : Int32) &&& 31).toUInt32).toInt32))] []))
          refine go (fun _ k => XS.aloadN X9.here hx rfl (hb hby d1_13) rfl rfl  k) ?_
          show Go p e below _ (T9.setTop (mkF m 14 #[.val (.ref a1), .val (.int p2), .val (.int p3), .val (.int (((p2 + (1 : Int32)) + (1 : Int32)) + (1 : Int32))), .val (.int ((((((p3.toUInt32 >>> ((7 : Int32) &&& 31).toUInt32).toInt32).toUInt32 >>> ((7 : Int32) &&& 31).toUInt32).toInt32).toUInt32 >>> ((7 : Int32) &&& 31).toUInt32).toInt32))] [(.ref a1)]))
          refine go (fun _ k => XS.iloadN X9.here hx rfl (hb hby d1_14) rfl  k) ?_
          show Go p e below _ (T9.setTop (mkF m 15 #[.val (.ref a1), .val (.int p2), .val (.int p3), .val (.int (((p2 + (1 : Int32)) + (1 : Int32)) + (1 : Int32))), .val (.int ((((((p3.toUInt32 >>> ((7 : Int32) &&& 31).toUInt32).toInt32).toUInt32 >>> ((7 : Int32) &&& 31).toUInt32).toInt32).toUInt32 >>> ((7 : Int32) &&& 31).toUInt32).toInt32))] [(.int (((p2 + (1 : Int32)) + (1 : Int32)) + (1 : Int32))), (.ref a1)]))
          refine go (fun _ k => XS.iload X9.here hx rfl (hb hby d1_15) rfl  k) ?_
          show Go p e below _ (T9.setTop (mkF m 17 #[.val (.ref a1), .val (.int p2), .val (.int p3), .val (.int (((p2 + (1 : Int32)) + (1 : Int32)) + (1 : Int32))), .val (.int ((((((p3.toUInt32 >>> ((7 : Int32) &&& 31).toUInt32).toInt32).toUInt32 >>> ((7 : Int32) &&& 31).toUInt32).toInt32).toUInt32 >>> ((7 : Int32) &&& 31).toUInt32).toInt32))] [(.int ((((((p3.toUInt32 >>> ((7 : Int32) &&& 31).toUInt32).toInt32).toUInt32 >>> ((7 : Int32) &&& 31).toUInt32).toInt32).toUInt32 >>> ((7 : Int32) &&& 31).toUInt32).toInt32)), (.int (((p2 + (1 : Int32)) + (1 : Int32)) + (1 : Int32))), (.ref a1)]))
          refine go (fun _ k => XS.sipush X9.here hx rfl (hb hby d1_17) k) ?_
          show Go p e below _ (T9.setTop (mkF m 20 #[.val (.ref a1), .val (.int p2), .val (.int p3), .val (.int (((p2 + (1 : Int32)) + (1 : Int32)) + (1 : Int32))), .val (.int ((((((p3.toUInt32 >>> ((7 : Int32) &&& 31).toUInt32).toInt32).toUInt32 >>> ((7 : Int32) &&& 31).toUInt32).toInt32).toUInt32 >>> ((7 : Int32) &&& 31).toUInt32).toInt32))] [(.int (128 : Int32)), (.int ((((((p3.toUInt32 >>> ((7 : Int32) &&& 31).toUInt32).toInt32).toUInt32 >>> ((7 : Int32) &&& 31).toUInt32).toInt32).toUInt32 >>> ((7 : Int32) &&& 31).toUInt32).toInt32)), (.int (((p2 + (1 : Int32)) + (1 : Int32)) + (1 : Int32))), (.ref a1)]))
          refine go (fun _ k => XS.ior X9.here hx rfl (hb hby d1_20) rfl k) ?_
          show Go p e below _ (T9.setTop (mkF m 21 #[.val (.ref a1), .val (.int p2), .val (.int p3), .val (.int (((p2 + (1 : Int32)) + (1 : Int32)) + (1 : Int32))), .val (.int ((((((p3.toUInt32 >>> ((7 : Int32) &&& 31).toUInt32).toInt32).toUInt32 >>> ((7 : Int32) &&& 31).toUInt32).toInt32).toUInt32 >>> ((7 : Int32) &&& 31).toUInt32).toInt32))] [(.int (((((((p3.toUInt32 >>> ((7 : Int32) &&& 31).toUInt32).toInt32).toUInt32 >>> ((7 : Int32) &&& 31).toUInt32).toInt32).toUInt32 >>> ((7 : Int32) &&& 31).toUInt32).toInt32) ||| (128 : Int32))), (.int (((p2 + (1 : Int32)) + (1 : Int32)) + (1 : Int32))), (.ref a1)]))
          refine go (fun _ k => XS.i2b X9.here hx rfl (hb hby d1_21) rfl k) ?_
          show Go p e below _ (T9.setTop (mkF m 22 #[.val (.ref a1), .val (.int p2), .val (.int p3), .val (.int (((p2 + (1 : Int32)) + (1 : Int32)) + (1 : Int32))), .val (.int ((((((p3.toUInt32 >>> ((7 : Int32) &&& 31).toUInt32).toInt32).toUInt32 >>> ((7 : Int32) &&& 31).toUInt32).toInt32).toUInt32 >>> ((7 : Int32) &&& 31).toUInt32).toInt32))] [(.int ((((((((p3.toUInt32 >>> ((7 : Int32) &&& 31).toUInt32).toInt32).toUInt32 >>> ((7 : Int32) &&& 31).toUInt32).toInt32).toUInt32 >>> ((7 : Int32) &&& 31).toUInt32).toInt32) ||| (128 : Int32)).toInt8.toInt32)), (.int (((p2 + (1 : Int32)) + (1 : Int32)) + (1 : Int32))), (.ref a1)]))
          obtain ⟨cl12, Ar12, q12, S12, M12, H12, G12⟩ := V_a1_9
          have hin12 : ¬ ((((p2 + (1 : Int32)) + (1 : Int32)) + (1 : Int32)) < 0 ∨ cl12.slots.size ≤ ((((p2 + (1 : Int32)) + (1 : Int32)) + (1 : Int32))).toNatClampNeg) := inb_of S12 (own_j hat 3 (by decide) hj3)
          obtain ⟨T12, h12, X12, e12, W12, st12⟩ := stB X9 hx hZ e9 Ar12 (j := (((p2 + (1 : Int32)) + (1 : Int32)) + (1 : Int32))) hin12 (g := (mkF m 22 #[.val (.ref a1), .val (.int p2), .val (.int p3), .val (.int (((p2 + (1 : Int32)) + (1 : Int32)) + (1 : Int32))), .val (.int ((((((p3.toUInt32 >>> ((7 : Int32) &&& 31).toUInt32).toInt32).toUInt32 >>> ((7 : Int32) &&& 31).toUInt32).toInt32).toUInt32 >>> ((7 : Int32) &&& 31).toUInt32).toInt32))] [(.int ((((((((p3.toUInt32 >>> ((7 : Int32) &&& 31).toUInt32).toInt32).toUInt32 >>> ((7 : Int32) &&& 31).toUInt32).toInt32).toUInt32 >>> ((7 : Int32) &&& 31).toUInt32).toInt32) ||| (128 : Int32)).toInt8.toInt32)), (.int (((p2 + (1 : Int32)) + (1 : Int32)) + (1 : Int32))), (.ref a1)])) rfl rfl (hb hby d1_22)
          have V12 := Arv.set Ar12 q12 S12 M12 H12 G12 (fits_nar_byte _) W12 ((((p2 + (1 : Int32)) + (1 : Int32)) + (1 : Int32))).toNatClampNeg rfl (by simp only [List.length_set, List.length_map, hl]; exact own_jn hat 3 (by decide) hj3)
          have V_a1_12 : Arv Z h12 a1 kt .byte (10 : Int32) (((((xs.map Value.int).set ((p2).toNatClampNeg) (.int (nar .byte ((p3 ||| (128 : Int32)).toInt8.toInt32)))).set (((p2 + (1 : Int32))).toNatClampNeg) (.int (nar .byte ((((p3.toUInt32 >>> ((7 : Int32) &&& 31).toUInt32).toInt32) ||| (128 : Int32)).toInt8.toInt32)))).set ((((p2 + (1 : Int32)) + (1 : Int32))).toNatClampNeg) (.int (nar .byte ((((((p3.toUInt32 >>> ((7 : Int32) &&& 31).toUInt32).toInt32).toUInt32 >>> ((7 : Int32) &&& 31).toUInt32).toInt32) ||| (128 : Int32)).toInt8.toInt32)))).set (((((p2 + (1 : Int32)) + (1 : Int32)) + (1 : Int32))).toNatClampNeg) (.int (nar .byte ((((((((p3.toUInt32 >>> ((7 : Int32) &&& 31).toUInt32).toInt32).toUInt32 >>> ((7 : Int32) &&& 31).toUInt32).toInt32).toUInt32 >>> ((7 : Int32) &&& 31).toUInt32).toInt32) ||| (128 : Int32)).toInt8.toInt32)))) (.int (0 : Int32)) := V12
          have N12 := Fr.snoc X12 N9 g_a1
          refine go st12 ?_
          show Go p e below _ (T12.setTop (mkF m 23 #[.val (.ref a1), .val (.int p2), .val (.int p3), .val (.int (((p2 + (1 : Int32)) + (1 : Int32)) + (1 : Int32))), .val (.int ((((((p3.toUInt32 >>> ((7 : Int32) &&& 31).toUInt32).toInt32).toUInt32 >>> ((7 : Int32) &&& 31).toUInt32).toInt32).toUInt32 >>> ((7 : Int32) &&& 31).toUInt32).toInt32))] []))
          refine go (fun _ k => XS.iinc X12.here hx rfl (hb hby d1_23) rfl (l' := #[.val (.ref a1), .val (.int p2), .val (.int p3), .val (.int ((((p2 + (1 : Int32)) + (1 : Int32)) + (1 : Int32)) + (1 : Int32))), .val (.int ((((((p3.toUInt32 >>> ((7 : Int32) &&& 31).toUInt32).toInt32).toUInt32 >>> ((7 : Int32) &&& 31).toUInt32).toInt32).toUInt32 >>> ((7 : Int32) &&& 31).toUInt32).toInt32))]) rfl k) ?_
          show Go p e below _ (T12.setTop (mkF m 26 #[.val (.ref a1), .val (.int p2), .val (.int p3), .val (.int ((((p2 + (1 : Int32)) + (1 : Int32)) + (1 : Int32)) + (1 : Int32))), .val (.int ((((((p3.toUInt32 >>> ((7 : Int32) &&& 31).toUInt32).toInt32).toUInt32 >>> ((7 : Int32) &&& 31).toUInt32).toInt32).toUInt32 >>> ((7 : Int32) &&& 31).toUInt32).toInt32))] []))
          refine go (fun _ k => XS.iload X12.here hx rfl (hb hby d1_26) rfl  k) ?_
          show Go p e below _ (T12.setTop (mkF m 28 #[.val (.ref a1), .val (.int p2), .val (.int p3), .val (.int ((((p2 + (1 : Int32)) + (1 : Int32)) + (1 : Int32)) + (1 : Int32))), .val (.int ((((((p3.toUInt32 >>> ((7 : Int32) &&& 31).toUInt32).toInt32).toUInt32 >>> ((7 : Int32) &&& 31).toUInt32).toInt32).toUInt32 >>> ((7 : Int32) &&& 31).toUInt32).toInt32))] [(.int ((((((p3.toUInt32 >>> ((7 : Int32) &&& 31).toUInt32).toInt32).toUInt32 >>> ((7 : Int32) &&& 31).toUInt32).toInt32).toUInt32 >>> ((7 : Int32) &&& 31).toUInt32).toInt32))]))
          refine go (fun _ k => XS.bipush X12.here hx rfl (hb hby d1_28) k) ?_
          show Go p e below _ (T12.setTop (mkF m 30 #[.val (.ref a1), .val (.int p2), .val (.int p3), .val (.int ((((p2 + (1 : Int32)) + (1 : Int32)) + (1 : Int32)) + (1 : Int32))), .val (.int ((((((p3.toUInt32 >>> ((7 : Int32) &&& 31).toUInt32).toInt32).toUInt32 >>> ((7 : Int32) &&& 31).toUInt32).toInt32).toUInt32 >>> ((7 : Int32) &&& 31).toUInt32).toInt32))] [(.int (7 : Int32)), (.int ((((((p3.toUInt32 >>> ((7 : Int32) &&& 31).toUInt32).toInt32).toUInt32 >>> ((7 : Int32) &&& 31).toUInt32).toInt32).toUInt32 >>> ((7 : Int32) &&& 31).toUInt32).toInt32))]))
          refine go (fun _ k => XS.iushr X12.here hx rfl (hb hby d1_30) rfl k) ?_
          show Go p e below _ (T12.setTop (mkF m 31 #[.val (.ref a1), .val (.int p2), .val (.int p3), .val (.int ((((p2 + (1 : Int32)) + (1 : Int32)) + (1 : Int32)) + (1 : Int32))), .val (.int ((((((p3.toUInt32 >>> ((7 : Int32) &&& 31).toUInt32).toInt32).toUInt32 >>> ((7 : Int32) &&& 31).toUInt32).toInt32).toUInt32 >>> ((7 : Int32) &&& 31).toUInt32).toInt32))] [(.int ((((((((p3.toUInt32 >>> ((7 : Int32) &&& 31).toUInt32).toInt32).toUInt32 >>> ((7 : Int32) &&& 31).toUInt32).toInt32).toUInt32 >>> ((7 : Int32) &&& 31).toUInt32).toInt32).toUInt32 >>> ((7 : Int32) &&& 31).toUInt32).toInt32))]))
          refine go (fun _ k => XS.istore X12.here hx rfl (hb hby d1_31) rfl (l' := #[.val (.ref a1), .val (.int p2), .val (.int p3), .val (.int ((((p2 + (1 : Int32)) + (1 : Int32)) + (1 : Int32)) + (1 : Int32))), .val (.int ((((((((p3.toUInt32 >>> ((7 : Int32) &&& 31).toUInt32).toInt32).toUInt32 >>> ((7 : Int32) &&& 31).toUInt32).toInt32).toUInt32 >>> ((7 : Int32) &&& 31).toUInt32).toInt32).toUInt32 >>> ((7 : Int32) &&& 31).toUInt32).toInt32))]) rfl k) ?_
          show Go p e below _ (T12.setTop (mkF m 33 #[.val (.ref a1), .val (.int p2), .val (.int p3), .val (.int ((((p2 + (1 : Int32)) + (1 : Int32)) + (1 : Int32)) + (1 : Int32))), .val (.int ((((((((p3.toUInt32 >>> ((7 : Int32) &&& 31).toUInt32).toInt32).toUInt32 >>> ((7 : Int32) &&& 31).toUInt32).toInt32).toUInt32 >>> ((7 : Int32) &&& 31).toUInt32).toInt32).toUInt32 >>> ((7 : Int32) &&& 31).toUInt32).toInt32))] []))
          refine go (fun _ k => XS.goto X12.here hx rfl (pc0 := 33) (pc' := 5) rfl (hb hby d1_33) (by decide) (by decide) k) ?_
          show Go p e below _ (T12.setTop (mkF m 5 #[.val (.ref a1), .val (.int p2), .val (.int p3), .val (.int ((((p2 + (1 : Int32)) + (1 : Int32)) + (1 : Int32)) + (1 : Int32))), .val (.int ((((((((p3.toUInt32 >>> ((7 : Int32) &&& 31).toUInt32).toInt32).toUInt32 >>> ((7 : Int32) &&& 31).toUInt32).toInt32).toUInt32 >>> ((7 : Int32) &&& 31).toUInt32).toInt32).toUInt32 >>> ((7 : Int32) &&& 31).toUInt32).toInt32))] []))
          refine go (fun _ k => XS.iload X12.here hx rfl (hb hby d1_5) rfl  k) ?_
          show Go p e below _ (T12.setTop (mkF m 7 #[.val (.ref a1), .val (.int p2), .val (.int p3), .val (.int ((((p2 + (1 : Int32)) + (1 : Int32)) + (1 : Int32)) + (1 : Int32))), .val (.int ((((((((p3.toUInt32 >>> ((7 : Int32) &&& 31).toUInt32).toInt32).toUInt32 >>> ((7 : Int32) &&& 31).toUInt32).toInt32).toUInt32 >>> ((7 : Int32) &&& 31).toUInt32).toInt32).toUInt32 >>> ((7 : Int32) &&& 31).toUInt32).toInt32))] [(.int ((((((((p3.toUInt32 >>> ((7 : Int32) &&& 31).toUInt32).toInt32).toUInt32 >>> ((7 : Int32) &&& 31).toUInt32).toInt32).toUInt32 >>> ((7 : Int32) &&& 31).toUInt32).toInt32).toUInt32 >>> ((7 : Int32) &&& 31).toUInt32).toInt32))]))
          refine go (fun _ k => XS.sipush X12.here hx rfl (hb hby d1_7) k) ?_
          show Go p e below _ (T12.setTop (mkF m 10 #[.val (.ref a1), .val (.int p2), .val (.int p3), .val (.int ((((p2 + (1 : Int32)) + (1 : Int32)) + (1 : Int32)) + (1 : Int32))), .val (.int ((((((((p3.toUInt32 >>> ((7 : Int32) &&& 31).toUInt32).toInt32).toUInt32 >>> ((7 : Int32) &&& 31).toUInt32).toInt32).toUInt32 >>> ((7 : Int32) &&& 31).toUInt32).toInt32).toUInt32 >>> ((7 : Int32) &&& 31).toUInt32).toInt32))] [(.int (128 : Int32)), (.int ((((((((p3.toUInt32 >>> ((7 : Int32) &&& 31).toUInt32).toInt32).toUInt32 >>> ((7 : Int32) &&& 31).toUInt32).toInt32).toUInt32 >>> ((7 : Int32) &&& 31).toUInt32).toInt32).toUInt32 >>> ((7 : Int32) &&& 31).toUInt32).toInt32))]))
          have hc10_5 : ((((((((p3.toUInt32 >>> ((7 : Int32) &&& 31).toUInt32).toInt32).toUInt32 >>> ((7 : Int32) &&& 31).toUInt32).toInt32).toUInt32 >>> ((7 : Int32) &&& 31).toUInt32).toInt32).toUInt32 >>> ((7 : Int32) &&& 31).toUInt32).toInt32) < (128 : Int32) := own_last p3 hn
          refine go (fun _ k => XS.icmpYes X12.here hx rfl (pc0 := 10) (pc' := 36) rfl (hb hby d1_10) rfl (tlt hc10_5).1 (by decide) (by decide) k) ?_
          show Go p e below _ (T12.setTop (mkF m 36 #[.val (.ref a1), .val (.int p2), .val (.int p3), .val (.int ((((p2 + (1 : Int32)) + (1 : Int32)) + (1 : Int32)) + (1 : Int32))), .val (.int ((((((((p3.toUInt32 >>> ((7 : Int32) &&& 31).toUInt32).toInt32).toUInt32 >>> ((7 : Int32) &&& 31).toUInt32).toInt32).toUInt32 >>> ((7 : Int32) &&& 31).toUInt32).toInt32).toUInt32 >>> ((7 : Int32) &&& 31).toUInt32).toInt32))] []))
          refine go (fun _ k => XS.aloadN X12.here hx rfl (hb hby d1_36) rfl rfl  k) ?_
          show Go p e below _ (T12.setTop (mkF m 37 #[.val (.ref a1), .val (.int p2), .val (.int p3), .val (.int ((((p2 + (1 : Int32)) + (1 : Int32)) + (1 : Int32)) + (1 : Int32))), .val (.int ((((((((p3.toUInt32 >>> ((7 : Int32) &&& 31).toUInt32).toInt32).toUInt32 >>> ((7 : Int32) &&& 31).toUInt32).toInt32).toUInt32 >>> ((7 : Int32) &&& 31).toUInt32).toInt32).toUInt32 >>> ((7 : Int32) &&& 31).toUInt32).toInt32))] [(.ref a1)]))
          refine go (fun _ k => XS.iloadN X12.here hx rfl (hb hby d1_37) rfl  k) ?_
          show Go p e below _ (T12.setTop (mkF m 38 #[.val (.ref a1), .val (.int p2), .val (.int p3), .val (.int ((((p2 + (1 : Int32)) + (1 : Int32)) + (1 : Int32)) + (1 : Int32))), .val (.int ((((((((p3.toUInt32 >>> ((7 : Int32) &&& 31).toUInt32).toInt32).toUInt32 >>> ((7 : Int32) &&& 31).toUInt32).toInt32).toUInt32 >>> ((7 : Int32) &&& 31).toUInt32).toInt32).toUInt32 >>> ((7 : Int32) &&& 31).toUInt32).toInt32))] [(.int ((((p2 + (1 : Int32)) + (1 : Int32)) + (1 : Int32)) + (1 : Int32))), (.ref a1)]))
          refine go (fun _ k => XS.iload X12.here hx rfl (hb hby d1_38) rfl  k) ?_
          show Go p e below _ (T12.setTop (mkF m 40 #[.val (.ref a1), .val (.int p2), .val (.int p3), .val (.int ((((p2 + (1 : Int32)) + (1 : Int32)) + (1 : Int32)) + (1 : Int32))), .val (.int ((((((((p3.toUInt32 >>> ((7 : Int32) &&& 31).toUInt32).toInt32).toUInt32 >>> ((7 : Int32) &&& 31).toUInt32).toInt32).toUInt32 >>> ((7 : Int32) &&& 31).toUInt32).toInt32).toUInt32 >>> ((7 : Int32) &&& 31).toUInt32).toInt32))] [(.int ((((((((p3.toUInt32 >>> ((7 : Int32) &&& 31).toUInt32).toInt32).toUInt32 >>> ((7 : Int32) &&& 31).toUInt32).toInt32).toUInt32 >>> ((7 : Int32) &&& 31).toUInt32).toInt32).toUInt32 >>> ((7 : Int32) &&& 31).toUInt32).toInt32)), (.int ((((p2 + (1 : Int32)) + (1 : Int32)) + (1 : Int32)) + (1 : Int32))), (.ref a1)]))
          refine go (fun _ k => XS.i2b X12.here hx rfl (hb hby d1_40) rfl k) ?_
          show Go p e below _ (T12.setTop (mkF m 41 #[.val (.ref a1), .val (.int p2), .val (.int p3), .val (.int ((((p2 + (1 : Int32)) + (1 : Int32)) + (1 : Int32)) + (1 : Int32))), .val (.int ((((((((p3.toUInt32 >>> ((7 : Int32) &&& 31).toUInt32).toInt32).toUInt32 >>> ((7 : Int32) &&& 31).toUInt32).toInt32).toUInt32 >>> ((7 : Int32) &&& 31).toUInt32).toInt32).toUInt32 >>> ((7 : Int32) &&& 31).toUInt32).toInt32))] [(.int (((((((((p3.toUInt32 >>> ((7 : Int32) &&& 31).toUInt32).toInt32).toUInt32 >>> ((7 : Int32) &&& 31).toUInt32).toInt32).toUInt32 >>> ((7 : Int32) &&& 31).toUInt32).toInt32).toUInt32 >>> ((7 : Int32) &&& 31).toUInt32).toInt32).toInt8.toInt32)), (.int ((((p2 + (1 : Int32)) + (1 : Int32)) + (1 : Int32)) + (1 : Int32))), (.ref a1)]))
          obtain ⟨cl13, Ar13, q13, S13, M13, H13, G13⟩ := V_a1_12
          have hin13 : ¬ (((((p2 + (1 : Int32)) + (1 : Int32)) + (1 : Int32)) + (1 : Int32)) < 0 ∨ cl13.slots.size ≤ (((((p2 + (1 : Int32)) + (1 : Int32)) + (1 : Int32)) + (1 : Int32))).toNatClampNeg) := inb_of S13 (own_j hat 4 (by decide) hj4)
          obtain ⟨T13, h13, X13, e13, W13, st13⟩ := stB X12 hx hZ e12 Ar13 (j := ((((p2 + (1 : Int32)) + (1 : Int32)) + (1 : Int32)) + (1 : Int32))) hin13 (g := (mkF m 41 #[.val (.ref a1), .val (.int p2), .val (.int p3), .val (.int ((((p2 + (1 : Int32)) + (1 : Int32)) + (1 : Int32)) + (1 : Int32))), .val (.int ((((((((p3.toUInt32 >>> ((7 : Int32) &&& 31).toUInt32).toInt32).toUInt32 >>> ((7 : Int32) &&& 31).toUInt32).toInt32).toUInt32 >>> ((7 : Int32) &&& 31).toUInt32).toInt32).toUInt32 >>> ((7 : Int32) &&& 31).toUInt32).toInt32))] [(.int (((((((((p3.toUInt32 >>> ((7 : Int32) &&& 31).toUInt32).toInt32).toUInt32 >>> ((7 : Int32) &&& 31).toUInt32).toInt32).toUInt32 >>> ((7 : Int32) &&& 31).toUInt32).toInt32).toUInt32 >>> ((7 : Int32) &&& 31).toUInt32).toInt32).toInt8.toInt32)), (.int ((((p2 + (1 : Int32)) + (1 : Int32)) + (1 : Int32)) + (1 : Int32))), (.ref a1)])) rfl rfl (hb hby d1_41)
          have V13 := Arv.set Ar13 q13 S13 M13 H13 G13 (fits_nar_byte _) W13 (((((p2 + (1 : Int32)) + (1 : Int32)) + (1 : Int32)) + (1 : Int32))).toNatClampNeg rfl (by simp only [List.length_set, List.length_map, hl]; exact own_jn hat 4 (by decide) hj4)
          have V_a1_13 : Arv Z h13 a1 kt .byte (10 : Int32) ((((((xs.map Value.int).set ((p2).toNatClampNeg) (.int (nar .byte ((p3 ||| (128 : Int32)).toInt8.toInt32)))).set (((p2 + (1 : Int32))).toNatClampNeg) (.int (nar .byte ((((p3.toUInt32 >>> ((7 : Int32) &&& 31).toUInt32).toInt32) ||| (128 : Int32)).toInt8.toInt32)))).set ((((p2 + (1 : Int32)) + (1 : Int32))).toNatClampNeg) (.int (nar .byte ((((((p3.toUInt32 >>> ((7 : Int32) &&& 31).toUInt32).toInt32).toUInt32 >>> ((7 : Int32) &&& 31).toUInt32).toInt32) ||| (128 : Int32)).toInt8.toInt32)))).set (((((p2 + (1 : Int32)) + (1 : Int32)) + (1 : Int32))).toNatClampNeg) (.int (nar .byte ((((((((p3.toUInt32 >>> ((7 : Int32) &&& 31).toUInt32).toInt32).toUInt32 >>> ((7 : Int32) &&& 31).toUInt32).toInt32).toUInt32 >>> ((7 : Int32) &&& 31).toUInt32).toInt32) ||| (128 : Int32)).toInt8.toInt32)))).set ((((((p2 + (1 : Int32)) + (1 : Int32)) + (1 : Int32)) + (1 : Int32))).toNatClampNeg) (.int (nar .byte (((((((((p3.toUInt32 >>> ((7 : Int32) &&& 31).toUInt32).toInt32).toUInt32 >>> ((7 : Int32) &&& 31).toUInt32).toInt32).toUInt32 >>> ((7 : Int32) &&& 31).toUInt32).toInt32).toUInt32 >>> ((7 : Int32) &&& 31).toUInt32).toInt32).toInt8.toInt32)))) (.int (0 : Int32)) := V13
          have N13 := Fr.snoc X13 N12 g_a1
          refine go st13 ?_
          show Go p e below _ (T13.setTop (mkF m 42 #[.val (.ref a1), .val (.int p2), .val (.int p3), .val (.int ((((p2 + (1 : Int32)) + (1 : Int32)) + (1 : Int32)) + (1 : Int32))), .val (.int ((((((((p3.toUInt32 >>> ((7 : Int32) &&& 31).toUInt32).toInt32).toUInt32 >>> ((7 : Int32) &&& 31).toUInt32).toInt32).toUInt32 >>> ((7 : Int32) &&& 31).toUInt32).toInt32).toUInt32 >>> ((7 : Int32) &&& 31).toUInt32).toInt32))] []))
          refine go (fun _ k => XS.iloadN X13.here hx rfl (hb hby d1_42) rfl  k) ?_
          show Go p e below _ (T13.setTop (mkF m 43 #[.val (.ref a1), .val (.int p2), .val (.int p3), .val (.int ((((p2 + (1 : Int32)) + (1 : Int32)) + (1 : Int32)) + (1 : Int32))), .val (.int ((((((((p3.toUInt32 >>> ((7 : Int32) &&& 31).toUInt32).toInt32).toUInt32 >>> ((7 : Int32) &&& 31).toUInt32).toInt32).toUInt32 >>> ((7 : Int32) &&& 31).toUInt32).toInt32).toUInt32 >>> ((7 : Int32) &&& 31).toUInt32).toInt32))] [(.int ((((p2 + (1 : Int32)) + (1 : Int32)) + (1 : Int32)) + (1 : Int32)))]))
          refine go (fun _ k => XS.iconst X13.here hx rfl (hb hby d1_43) k) ?_
          show Go p e below _ (T13.setTop (mkF m 44 #[.val (.ref a1), .val (.int p2), .val (.int p3), .val (.int ((((p2 + (1 : Int32)) + (1 : Int32)) + (1 : Int32)) + (1 : Int32))), .val (.int ((((((((p3.toUInt32 >>> ((7 : Int32) &&& 31).toUInt32).toInt32).toUInt32 >>> ((7 : Int32) &&& 31).toUInt32).toInt32).toUInt32 >>> ((7 : Int32) &&& 31).toUInt32).toInt32).toUInt32 >>> ((7 : Int32) &&& 31).toUInt32).toInt32))] [(.int (1 : Int32)), (.int ((((p2 + (1 : Int32)) + (1 : Int32)) + (1 : Int32)) + (1 : Int32)))]))
          refine go (fun _ k => XS.iadd X13.here hx rfl (hb hby d1_44) rfl k) ?_
          show Go p e below _ (T13.setTop (mkF m 45 #[.val (.ref a1), .val (.int p2), .val (.int p3), .val (.int ((((p2 + (1 : Int32)) + (1 : Int32)) + (1 : Int32)) + (1 : Int32))), .val (.int ((((((((p3.toUInt32 >>> ((7 : Int32) &&& 31).toUInt32).toInt32).toUInt32 >>> ((7 : Int32) &&& 31).toUInt32).toInt32).toUInt32 >>> ((7 : Int32) &&& 31).toUInt32).toInt32).toUInt32 >>> ((7 : Int32) &&& 31).toUInt32).toInt32))] [(.int (((((p2 + (1 : Int32)) + (1 : Int32)) + (1 : Int32)) + (1 : Int32)) + (1 : Int32)))]))
          obtain ⟨fs, hr, hrun, hended, hW, hsame⟩ := X13.leave (v := some (.int (((((p2 + (1 : Int32)) + (1 : Int32)) + (1 : Int32)) + (1 : Int32)) + (1 : Int32)))) (fun h => by rw [Bd.returns] at h; cases h)
          have K14 : Keep h0 h13 [a1] := ((((((Keep.refl h0 [a1]).wr W3 (Or.inl (List.mem_of_getElem? (i := 0) rfl))).wr W6 (Or.inl (List.mem_of_getElem? (i := 0) rfl))).wr W9 (Or.inl (List.mem_of_getElem? (i := 0) rfl))).wr W12 (Or.inl (List.mem_of_getElem? (i := 0) rfl))).wr W13 (Or.inl (List.mem_of_getElem? (i := 0) rfl)))
          refine leaf (T := T13) ⟨fs, retI X13 hx Bd.returns (hb hby d1_45) hr, hrun, hended, hW, hsame⟩ ?_ (by decide) (by decide)
          show Q1 Z a1 p2 p3 kt xs h0 n0 _ T13.heap _
          rw [e13]
          exact ⟨(by simp only [own_r, if_neg (show ¬ (p3 < (128 : Int32)) from hc10_1), if_neg (show ¬ (own_s (p3) < (128 : Int32)) from hc10_2), if_neg (show ¬ (own_s (own_s (p3)) < (128 : Int32)) from hc10_3), if_neg (show ¬ (own_s (own_s (own_s (p3))) < (128 : Int32)) from hc10_4)]), N13, K14, (by simp only [own_w, if_neg (show ¬ (p3 < (128 : Int32)) from hc10_1), if_neg (show ¬ (own_s (p3) < (128 : Int32)) from hc10_2), if_neg (show ¬ (own_s (own_s (p3)) < (128 : Int32)) from hc10_3), if_neg (show ¬ (own_s (own_s (own_s (p3))) < (128 : Int32)) from hc10_4), List.map_set]; exact V_a1_13)⟩
theorem pn_1 : plainName "com/example/drienerlo/drienerlo/index/VarintWritePinLaw" = true := by first | (simp [plainName, overriddenIn]; done) | decide +kernel
theorem d2_0 : decode method_3_code 0 = .ok (.iload_n 1, 1) := by decide +kernel
theorem d2_1 : decode method_3_code 1 = .ok (.iload_n 2, 1) := by decide +kernel
theorem d2_2 : decode method_3_code 2 = .ok (.isub, 1) := by decide +kernel
theorem d2_3 : decode method_3_code 3 = .ok (.istore 6, 2) := by decide +kernel
theorem d2_5 : decode method_3_code 5 = .ok (.iload 6, 2) := by decide +kernel
theorem d2_7 : decode method_3_code 7 = .ok (.ifCond .lt 9, 3) := by decide +kernel
theorem d2_10 : decode method_3_code 10 = .ok (.iload 6, 2) := by decide +kernel
theorem d2_12 : decode method_3_code 12 = .ok (.iload_n 3, 1) := by decide +kernel
theorem d2_13 : decode method_3_code 13 = .ok (.if_icmp .lt 10, 3) := by decide +kernel
theorem d2_16 : decode method_3_code 16 = .ok (.iload 5, 2) := by decide +kernel
theorem d2_18 : decode method_3_code 18 = .ok (.istore 7, 2) := by decide +kernel
theorem d2_20 : decode method_3_code 20 = .ok (.goto 37, 3) := by decide +kernel
theorem d2_23 : decode method_3_code 23 = .ok (.iload 4, 2) := by decide +kernel
theorem d2_25 : decode method_3_code 25 = .ok (.bipush 7, 2) := by decide +kernel
theorem d2_27 : decode method_3_code 27 = .ok (.iload 6, 2) := by decide +kernel
theorem d2_29 : decode method_3_code 29 = .ok (.imul, 1) := by decide +kernel
theorem d2_30 : decode method_3_code 30 = .ok (.iushr, 1) := by decide +kernel
theorem d2_31 : decode method_3_code 31 = .ok (.bipush 127, 2) := by decide +kernel
theorem d2_33 : decode method_3_code 33 = .ok (.iand, 1) := by decide +kernel
theorem d2_34 : decode method_3_code 34 = .ok (.istore 8, 2) := by decide +kernel
theorem d2_36 : decode method_3_code 36 = .ok (.iload 6, 2) := by decide +kernel
theorem d2_38 : decode method_3_code 38 = .ok (.iload_n 3, 1) := by decide +kernel
theorem d2_39 : decode method_3_code 39 = .ok (.iconst 1, 1) := by decide +kernel
theorem d2_40 : decode method_3_code 40 = .ok (.isub, 1) := by decide +kernel
theorem d2_41 : decode method_3_code 41 = .ok (.if_icmp .ge 11, 3) := by decide +kernel
theorem d2_44 : decode method_3_code 44 = .ok (.iload 8, 2) := by decide +kernel
theorem d2_46 : decode method_3_code 46 = .ok (.sipush 128, 3) := by decide +kernel
theorem d2_49 : decode method_3_code 49 = .ok (.ior, 1) := by decide +kernel
theorem d2_50 : decode method_3_code 50 = .ok (.istore 8, 2) := by decide +kernel
theorem d2_52 : decode method_3_code 52 = .ok (.iload 8, 2) := by decide +kernel
theorem d2_54 : decode method_3_code 54 = .ok (.i2b, 1) := by decide +kernel
theorem d2_55 : decode method_3_code 55 = .ok (.istore 7, 2) := by decide +kernel
theorem d2_57 : decode method_3_code 57 = .ok (.aload_n 0, 1) := by decide +kernel
theorem d2_58 : decode method_3_code 58 = .ok (.iload_n 1, 1) := by decide +kernel
theorem d2_59 : decode method_3_code 59 = .ok (.baload, 1) := by decide +kernel
theorem d2_60 : decode method_3_code 60 = .ok (.iload 7, 2) := by decide +kernel
theorem d2_62 : decode method_3_code 62 = .ok (.if_icmp .ne 7, 3) := by decide +kernel
theorem d2_65 : decode method_3_code 65 = .ok (.iconst 1, 1) := by decide +kernel
theorem d2_66 : decode method_3_code 66 = .ok (.goto 4, 3) := by decide +kernel
theorem d2_69 : decode method_3_code 69 = .ok (.iconst 0, 1) := by decide +kernel
theorem d2_70 : decode method_3_code 70 = .ok (.ireturn, 1) := by decide +kernel
theorem ef_rm2 (m : MethodId) (a1 : Addr) (p2 : Int32) (p3 : Int32) (p4 : Int32) (p5 : Int32) (p6 : Int32) : entryFrame m #[(.ref a1), (.int p2), (.int p3), (.int p4), (.int p5), (.int p6)] 9 = mkF m 0 #[.val (.ref a1), .val (.int p2), .val (.int p3), .val (.int p4), .val (.int p5), .val (.int p6), .unset, .unset, .unset] [] := by first | (simp [entryFrame, mkF, argsToLocals, Value.category]; done) | rfl
def Q2 (Z : State) (a1 : Addr) (p2 : Int32) (p3 : Int32) (p4 : Int32) (p5 : Int32) (p6 : Int32) (kt : ClassId) (xs : List Int32) (h0 : Heap) (n0 : Nat) (v : Option Value) (h : Heap) (L : List Loc) : Prop := v = some (.int (bz (xs.getD (p2).toNatClampNeg 0 = own_want p2 p3 p4 p5 p6))) ∧ Fr n0 L ∧ h = h0
set_option maxRecDepth 65536 in
set_option maxHeartbeats 40000000 in
theorem rm2 (l : Launch) (Z : State) (a0 : Array Value) (hw : ∀ d ∈ tables_1, d.before a0 Z = true) (ws : List Jvm.Cond) (a1 : Addr) (p2 : Int32) (p3 : Int32) (p4 : Int32) (p5 : Int32) (p6 : Int32) (kt : ClassId) (xs : List Int32) (h0 : Heap) (n0 : Nat) (Z0 : n0 ≤ h0.size) (V_a1 : Arv Z h0 a1 kt .byte (10 : Int32) (xs.map Value.int) (.int (0 : Int32))) (hp : ¬ p2 < 0 ∧ p2 < 10) :
    MetFree l (⟨"com/example/drienerlo/drienerlo/index/VarintWritePinLaw", "ok", "([BIIIIB)Z"⟩ : MethodName) (head1 (Jvm.Cond.code (⟨"com/example/drienerlo/drienerlo/index/VarintWritePinLaw", "ok", "([BIIIIB)Z"⟩ : MethodName) method_3_code 9 (some .boolean) :: ws) ({ frames := 0, cells := 0, slots := 0, locals := 0 } : Room)) (fun a U => a = #[(.ref a1), (.int p2), (.int p3), (.int p4), (.int p5), (.int p6)] ∧ Z.Warmed39 U.vm ∧ U.heap = h0) (fun _ _ _ _ _ => True) (fun _ U o U' => ∃ v L, o = .returned v ∧ Q2 Z a1 p2 p3 p4 p5 p6 kt xs h0 n0 v U'.heap L ∧ FrameEnd U o U' L ({ frames := 0, cells := 0, slots := 0, locals := 0 } : Room).cells ({ frames := 0, cells := 0, slots := 0, locals := 0 } : Room).slots) := by
  refine MetFree.of_bodySF (plainFor_of_name pn_1) hisR ?_
  intro p e s m args below meth c s₁ Bd hml0 hP hK
  obtain ⟨rfl, hZ, hh⟩ := hP
  have hx := Bd.exec
  have hby := Bd.bytes
  have hml : c.maxLocals = 9 := hml0
  have hown : s.vm.findClass "com/example/drienerlo/drienerlo/index/VarintWritePinLaw" = some m.cls := findClass_of_methodNamed Bd.named
  have hnm := (name_of_methodNamed Bd.named Bd.method).1
  have X0 : Stand p l e ({ frames := 0, cells := 0, slots := 0, locals := 0 } : Room) s m #[(.ref a1), (.int p2), (.int p3), (.int p4), (.int p5), (.int p6)] below meth c s₁ [] 0 0 := Stand.of_body Bd
  have e0 : s₁.heap = h0 := by rw [← hh, Bd.state]; rfl
  have N0 := Fr.nil n0
  show Go p e below (PP s below (Q2 Z a1 p2 p3 p4 p5 p6 kt xs h0 n0) ({ frames := 0, cells := 0, slots := 0, locals := 0 } : Room).cells ({ frames := 0, cells := 0, slots := 0, locals := 0 } : Room).slots) (s₁.setTop (entryFrame m #[(.ref a1), (.int p2), (.int p3), (.int p4), (.int p5), (.int p6)] 9))
  refine go (fun _ k => castTop (ef_rm2 m a1 p2 p3 p4 p5 p6) k) ?_
  show Go p e below _ (s₁.setTop (mkF m 0 #[.val (.ref a1), .val (.int p2), .val (.int p3), .val (.int p4), .val (.int p5), .val (.int p6), .unset, .unset, .unset] []))
  refine go (fun _ k => XS.iloadN X0.here hx rfl (hb hby d2_0) rfl  k) ?_
  show Go p e below _ (s₁.setTop (mkF m 1 #[.val (.ref a1), .val (.int p2), .val (.int p3), .val (.int p4), .val (.int p5), .val (.int p6), .unset, .unset, .unset] [(.int p2)]))
  refine go (fun _ k => XS.iloadN X0.here hx rfl (hb hby d2_1) rfl  k) ?_
  show Go p e below _ (s₁.setTop (mkF m 2 #[.val (.ref a1), .val (.int p2), .val (.int p3), .val (.int p4), .val (.int p5), .val (.int p6), .unset, .unset, .unset] [(.int p3), (.int p2)]))
  refine go (fun _ k => XS.isub X0.here hx rfl (hb hby d2_2) rfl k) ?_
  show Go p e below _ (s₁.setTop (mkF m 3 #[.val (.ref a1), .val (.int p2), .val (.int p3), .val (.int p4), .val (.int p5), .val (.int p6), .unset, .unset, .unset] [(.int (p2 - p3))]))
  refine go (fun _ k => XS.istore X0.here hx rfl (hb hby d2_3) rfl (l' := #[.val (.ref a1), .val (.int p2), .val (.int p3), .val (.int p4), .val (.int p5), .val (.int p6), .val (.int (p2 - p3)), .unset, .unset]) rfl k) ?_
  show Go p e below _ (s₁.setTop (mkF m 5 #[.val (.ref a1), .val (.int p2), .val (.int p3), .val (.int p4), .val (.int p5), .val (.int p6), .val (.int (p2 - p3)), .unset, .unset] []))
  refine go (fun _ k => XS.iload X0.here hx rfl (hb hby d2_5) rfl  k) ?_
  show Go p e below _ (s₁.setTop (mkF m 7 #[.val (.ref a1), .val (.int p2), .val (.int p3), .val (.int p4), .val (.int p5), .val (.int p6), .val (.int (p2 - p3)), .unset, .unset] [(.int (p2 - p3))]))
  by_cases hc7_1 : (p2 - p3) < (0 : Int32)
  · skip
    refine go (fun _ k => XS.ifYes X0.here hx rfl (pc0 := 7) (pc' := 16) rfl (hb hby d2_7) rfl ((if0 _ _).trans (tlt hc7_1).1) (by decide) (by decide) k) ?_
    show Go p e below _ (s₁.setTop (mkF m 16 #[.val (.ref a1), .val (.int p2), .val (.int p3), .val (.int p4), .val (.int p5), .val (.int p6), .val (.int (p2 - p3)), .unset, .unset] []))
    refine go (fun _ k => XS.iload X0.here hx rfl (hb hby d2_16) rfl  k) ?_
    show Go p e below _ (s₁.setTop (mkF m 18 #[.val (.ref a1), .val (.int p2), .val (.int p3), .val (.int p4), .val (.int p5), .val (.int p6), .val (.int (p2 - p3)), .unset, .unset] [(.int p6)]))
    refine go (fun _ k => XS.istore X0.here hx rfl (hb hby d2_18) rfl (l' := #[.val (.ref a1), .val (.int p2), .val (.int p3), .val (.int p4), .val (.int p5), .val (.int p6), .val (.int (p2 - p3)), .val (.int p6), .unset]) rfl k) ?_
    show Go p e below _ (s₁.setTop (mkF m 20 #[.val (.ref a1), .val (.int p2), .val (.int p3), .val (.int p4), .val (.int p5), .val (.int p6), .val (.int (p2 - p3)), .val (.int p6), .unset] []))
    refine go (fun _ k => XS.goto X0.here hx rfl (pc0 := 20) (pc' := 57) rfl (hb hby d2_20) (by decide) (by decide) k) ?_
    show Go p e below _ (s₁.setTop (mkF m 57 #[.val (.ref a1), .val (.int p2), .val (.int p3), .val (.int p4), .val (.int p5), .val (.int p6), .val (.int (p2 - p3)), .val (.int p6), .unset] []))
    refine go (fun _ k => XS.aloadN X0.here hx rfl (hb hby d2_57) rfl rfl  k) ?_
    show Go p e below _ (s₁.setTop (mkF m 58 #[.val (.ref a1), .val (.int p2), .val (.int p3), .val (.int p4), .val (.int p5), .val (.int p6), .val (.int (p2 - p3)), .val (.int p6), .unset] [(.ref a1)]))
    refine go (fun _ k => XS.iloadN X0.here hx rfl (hb hby d2_58) rfl  k) ?_
    show Go p e below _ (s₁.setTop (mkF m 59 #[.val (.ref a1), .val (.int p2), .val (.int p3), .val (.int p4), .val (.int p5), .val (.int p6), .val (.int (p2 - p3)), .val (.int p6), .unset] [(.int p2), (.ref a1)]))
    obtain ⟨cl1, Ar1, q1, S1, M1, H1, G1⟩ := V_a1
    have hin1 : ¬ (p2 < 0 ∨ cl1.slots.size ≤ (p2).toNatClampNeg) := inb_of S1 hp
    have hat1 : cl1.slots[(p2).toNatClampNeg]? = some (.int (xs.getD (p2).toNatClampNeg 0)) := Has.at H1 hin1 (own_map xs _)
    refine go (X0.baloadBytes hx (j := p2) (v := (.int (xs.getD (p2).toNatClampNeg 0))) (by rw [e0]; exact Ar1.1) (State.isArrayOf_alike hZ.alike Ar1.2.1) Ar1.2.2 hin1 hat1 (g := (mkF m 59 #[.val (.ref a1), .val (.int p2), .val (.int p3), .val (.int p4), .val (.int p5), .val (.int p6), .val (.int (p2 - p3)), .val (.int p6), .unset] [(.int p2), (.ref a1)])) rfl rfl (hb hby d2_59)) ?_
    show Go p e below _ (s₁.setTop (mkF m 60 #[.val (.ref a1), .val (.int p2), .val (.int p3), .val (.int p4), .val (.int p5), .val (.int p6), .val (.int (p2 - p3)), .val (.int p6), .unset] [(.int (xs.getD (p2).toNatClampNeg 0))]))
    refine go (fun _ k => XS.iload X0.here hx rfl (hb hby d2_60) rfl  k) ?_
    show Go p e below _ (s₁.setTop (mkF m 62 #[.val (.ref a1), .val (.int p2), .val (.int p3), .val (.int p4), .val (.int p5), .val (.int p6), .val (.int (p2 - p3)), .val (.int p6), .unset] [(.int p6), (.int (xs.getD (p2).toNatClampNeg 0))]))
    by_cases hc62_2 : (xs.getD (p2).toNatClampNeg 0) = p6
    · skip
      refine go (fun _ k => XS.icmpNo X0.here hx rfl (hb hby d2_62) rfl (teq hc62_2).2 k) ?_
      show Go p e below _ (s₁.setTop (mkF m 65 #[.val (.ref a1), .val (.int p2), .val (.int p3), .val (.int p4), .val (.int p5), .val (.int p6), .val (.int (p2 - p3)), .val (.int p6), .unset] []))
      refine go (fun _ k => XS.iconst X0.here hx rfl (hb hby d2_65) k) ?_
      show Go p e below _ (s₁.setTop (mkF m 66 #[.val (.ref a1), .val (.int p2), .val (.int p3), .val (.int p4), .val (.int p5), .val (.int p6), .val (.int (p2 - p3)), .val (.int p6), .unset] [(.int (1 : Int32))]))
      refine go (fun _ k => XS.goto X0.here hx rfl (pc0 := 66) (pc' := 70) rfl (hb hby d2_66) (by decide) (by decide) k) ?_
      show Go p e below _ (s₁.setTop (mkF m 70 #[.val (.ref a1), .val (.int p2), .val (.int p3), .val (.int p4), .val (.int p5), .val (.int p6), .val (.int (p2 - p3)), .val (.int p6), .unset] [(.int (1 : Int32))]))
      obtain ⟨fs, hr, hrun, hended, hW, hsame⟩ := X0.leave (v := some (.int (1 : Int32))) (fun h => by rw [Bd.returns] at h; cases h)
      refine leaf (T := s₁) ⟨fs, retN X0 hx (t := .boolean) Bd.returns (by simp) (hb hby d2_70) hr, hrun, hended, hW, hsame⟩ ?_ (by decide) (by decide)
      show Q2 Z a1 p2 p3 p4 p5 p6 kt xs h0 n0 _ s₁.heap _
      rw [e0]
      exact ⟨(by rw [bz_t (by simp only [own_want, if_pos hc7_1]; exact hc62_2)]), N0, rfl⟩
    · skip
      refine go (fun _ k => XS.icmpYes X0.here hx rfl (pc0 := 62) (pc' := 69) rfl (hb hby d2_62) rfl (feq hc62_2).2 (by decide) (by decide) k) ?_
      show Go p e below _ (s₁.setTop (mkF m 69 #[.val (.ref a1), .val (.int p2), .val (.int p3), .val (.int p4), .val (.int p5), .val (.int p6), .val (.int (p2 - p3)), .val (.int p6), .unset] []))
      refine go (fun _ k => XS.iconst X0.here hx rfl (hb hby d2_69) k) ?_
      show Go p e below _ (s₁.setTop (mkF m 70 #[.val (.ref a1), .val (.int p2), .val (.int p3), .val (.int p4), .val (.int p5), .val (.int p6), .val (.int (p2 - p3)), .val (.int p6), .unset] [(.int (0 : Int32))]))
      obtain ⟨fs, hr, hrun, hended, hW, hsame⟩ := X0.leave (v := some (.int (0 : Int32))) (fun h => by rw [Bd.returns] at h; cases h)
      refine leaf (T := s₁) ⟨fs, retN X0 hx (t := .boolean) Bd.returns (by simp) (hb hby d2_70) hr, hrun, hended, hW, hsame⟩ ?_ (by decide) (by decide)
      show Q2 Z a1 p2 p3 p4 p5 p6 kt xs h0 n0 _ s₁.heap _
      rw [e0]
      exact ⟨(by rw [bz_f (by simp only [own_want, if_pos hc7_1]; exact hc62_2)]), N0, rfl⟩
  · skip
    refine go (fun _ k => XS.ifNo X0.here hx rfl (hb hby d2_7) rfl ((if0 _ _).trans (flt hc7_1).1) k) ?_
    show Go p e below _ (s₁.setTop (mkF m 10 #[.val (.ref a1), .val (.int p2), .val (.int p3), .val (.int p4), .val (.int p5), .val (.int p6), .val (.int (p2 - p3)), .unset, .unset] []))
    refine go (fun _ k => XS.iload X0.here hx rfl (hb hby d2_10) rfl  k) ?_
    show Go p e below _ (s₁.setTop (mkF m 12 #[.val (.ref a1), .val (.int p2), .val (.int p3), .val (.int p4), .val (.int p5), .val (.int p6), .val (.int (p2 - p3)), .unset, .unset] [(.int (p2 - p3))]))
    refine go (fun _ k => XS.iloadN X0.here hx rfl (hb hby d2_12) rfl  k) ?_
    show Go p e below _ (s₁.setTop (mkF m 13 #[.val (.ref a1), .val (.int p2), .val (.int p3), .val (.int p4), .val (.int p5), .val (.int p6), .val (.int (p2 - p3)), .unset, .unset] [(.int p4), (.int (p2 - p3))]))
    by_cases hc13_3 : (p2 - p3) < p4
    · skip
      refine go (fun _ k => XS.icmpYes X0.here hx rfl (pc0 := 13) (pc' := 23) rfl (hb hby d2_13) rfl (tlt hc13_3).1 (by decide) (by decide) k) ?_
      show Go p e below _ (s₁.setTop (mkF m 23 #[.val (.ref a1), .val (.int p2), .val (.int p3), .val (.int p4), .val (.int p5), .val (.int p6), .val (.int (p2 - p3)), .unset, .unset] []))
      refine go (fun _ k => XS.iload X0.here hx rfl (hb hby d2_23) rfl  k) ?_
      show Go p e below _ (s₁.setTop (mkF m 25 #[.val (.ref a1), .val (.int p2), .val (.int p3), .val (.int p4), .val (.int p5), .val (.int p6), .val (.int (p2 - p3)), .unset, .unset] [(.int p5)]))
      refine go (fun _ k => XS.bipush X0.here hx rfl (hb hby d2_25) k) ?_
      show Go p e below _ (s₁.setTop (mkF m 27 #[.val (.ref a1), .val (.int p2), .val (.int p3), .val (.int p4), .val (.int p5), .val (.int p6), .val (.int (p2 - p3)), .unset, .unset] [(.int (7 : Int32)), (.int p5)]))
      refine go (fun _ k => XS.iload X0.here hx rfl (hb hby d2_27) rfl  k) ?_
      show Go p e below _ (s₁.setTop (mkF m 29 #[.val (.ref a1), .val (.int p2), .val (.int p3), .val (.int p4), .val (.int p5), .val (.int p6), .val (.int (p2 - p3)), .unset, .unset] [(.int (p2 - p3)), (.int (7 : Int32)), (.int p5)]))
      refine go (fun _ k => XS.imul X0.here hx rfl (hb hby d2_29) rfl k) ?_
      show Go p e below _ (s₁.setTop (mkF m 30 #[.val (.ref a1), .val (.int p2), .val (.int p3), .val (.int p4), .val (.int p5), .val (.int p6), .val (.int (p2 - p3)), .unset, .unset] [(.int ((7 : Int32) * (p2 - p3))), (.int p5)]))
      refine go (fun _ k => XS.iushr X0.here hx rfl (hb hby d2_30) rfl k) ?_
      show Go p e below _ (s₁.setTop (mkF m 31 #[.val (.ref a1), .val (.int p2), .val (.int p3), .val (.int p4), .val (.int p5), .val (.int p6), .val (.int (p2 - p3)), .unset, .unset] [(.int ((p5.toUInt32 >>> (((7 : Int32) * (p2 - p3)) &&& 31).toUInt32).toInt32))]))
      refine go (fun _ k => XS.bipush X0.here hx rfl (hb hby d2_31) k) ?_
      show Go p e below _ (s₁.setTop (mkF m 33 #[.val (.ref a1), .val (.int p2), .val (.int p3), .val (.int p4), .val (.int p5), .val (.int p6), .val (.int (p2 - p3)), .unset, .unset] [(.int (127 : Int32)), (.int ((p5.toUInt32 >>> (((7 : Int32) * (p2 - p3)) &&& 31).toUInt32).toInt32))]))
      refine go (fun _ k => XS.iand X0.here hx rfl (hb hby d2_33) rfl k) ?_
      show Go p e below _ (s₁.setTop (mkF m 34 #[.val (.ref a1), .val (.int p2), .val (.int p3), .val (.int p4), .val (.int p5), .val (.int p6), .val (.int (p2 - p3)), .unset, .unset] [(.int (((p5.toUInt32 >>> (((7 : Int32) * (p2 - p3)) &&& 31).toUInt32).toInt32) &&& (127 : Int32)))]))
      refine go (fun _ k => XS.istore X0.here hx rfl (hb hby d2_34) rfl (l' := #[.val (.ref a1), .val (.int p2), .val (.int p3), .val (.int p4), .val (.int p5), .val (.int p6), .val (.int (p2 - p3)), .unset, .val (.int (((p5.toUInt32 >>> (((7 : Int32) * (p2 - p3)) &&& 31).toUInt32).toInt32) &&& (127 : Int32)))]) rfl k) ?_
      show Go p e below _ (s₁.setTop (mkF m 36 #[.val (.ref a1), .val (.int p2), .val (.int p3), .val (.int p4), .val (.int p5), .val (.int p6), .val (.int (p2 - p3)), .unset, .val (.int (((p5.toUInt32 >>> (((7 : Int32) * (p2 - p3)) &&& 31).toUInt32).toInt32) &&& (127 : Int32)))] []))
      refine go (fun _ k => XS.iload X0.here hx rfl (hb hby d2_36) rfl  k) ?_
      show Go p e below _ (s₁.setTop (mkF m 38 #[.val (.ref a1), .val (.int p2), .val (.int p3), .val (.int p4), .val (.int p5), .val (.int p6), .val (.int (p2 - p3)), .unset, .val (.int (((p5.toUInt32 >>> (((7 : Int32) * (p2 - p3)) &&& 31).toUInt32).toInt32) &&& (127 : Int32)))] [(.int (p2 - p3))]))
      refine go (fun _ k => XS.iloadN X0.here hx rfl (hb hby d2_38) rfl  k) ?_
      show Go p e below _ (s₁.setTop (mkF m 39 #[.val (.ref a1), .val (.int p2), .val (.int p3), .val (.int p4), .val (.int p5), .val (.int p6), .val (.int (p2 - p3)), .unset, .val (.int (((p5.toUInt32 >>> (((7 : Int32) * (p2 - p3)) &&& 31).toUInt32).toInt32) &&& (127 : Int32)))] [(.int p4), (.int (p2 - p3))]))
      refine go (fun _ k => XS.iconst X0.here hx rfl (hb hby d2_39) k) ?_
      show Go p e below _ (s₁.setTop (mkF m 40 #[.val (.ref a1), .val (.int p2), .val (.int p3), .val (.int p4), .val (.int p5), .val (.int p6), .val (.int (p2 - p3)), .unset, .val (.int (((p5.toUInt32 >>> (((7 : Int32) * (p2 - p3)) &&& 31).toUInt32).toInt32) &&& (127 : Int32)))] [(.int (1 : Int32)), (.int p4), (.int (p2 - p3))]))
      refine go (fun _ k => XS.isub X0.here hx rfl (hb hby d2_40) rfl k) ?_
      show Go p e below _ (s₁.setTop (mkF m 41 #[.val (.ref a1), .val (.int p2), .val (.int p3), .val (.int p4), .val (.int p5), .val (.int p6), .val (.int (p2 - p3)), .unset, .val (.int (((p5.toUInt32 >>> (((7 : Int32) * (p2 - p3)) &&& 31).toUInt32).toInt32) &&& (127 : Int32)))] [(.int (p4 - (1 : Int32))), (.int (p2 - p3))]))
      by_cases hc41_4 : (p2 - p3) < (p4 - (1 : Int32))
      · skip
        refine go (fun _ k => XS.icmpNo X0.here hx rfl (hb hby d2_41) rfl (tlt hc41_4).2.1 k) ?_
        show Go p e below _ (s₁.setTop (mkF m 44 #[.val (.ref a1), .val (.int p2), .val (.int p3), .val (.int p4), .val (.int p5), .val (.int p6), .val (.int (p2 - p3)), .unset, .val (.int (((p5.toUInt32 >>> (((7 : Int32) * (p2 - p3)) &&& 31).toUInt32).toInt32) &&& (127 : Int32)))] []))
        refine go (fun _ k => XS.iload X0.here hx rfl (hb hby d2_44) rfl  k) ?_
        show Go p e below _ (s₁.setTop (mkF m 46 #[.val (.ref a1), .val (.int p2), .val (.int p3), .val (.int p4), .val (.int p5), .val (.int p6), .val (.int (p2 - p3)), .unset, .val (.int (((p5.toUInt32 >>> (((7 : Int32) * (p2 - p3)) &&& 31).toUInt32).toInt32) &&& (127 : Int32)))] [(.int (((p5.toUInt32 >>> (((7 : Int32) * (p2 - p3)) &&& 31).toUInt32).toInt32) &&& (127 : Int32)))]))
        refine go (fun _ k => XS.sipush X0.here hx rfl (hb hby d2_46) k) ?_
        show Go p e below _ (s₁.setTop (mkF m 49 #[.val (.ref a1), .val (.int p2), .val (.int p3), .val (.int p4), .val (.int p5), .val (.int p6), .val (.int (p2 - p3)), .unset, .val (.int (((p5.toUInt32 >>> (((7 : Int32) * (p2 - p3)) &&& 31).toUInt32).toInt32) &&& (127 : Int32)))] [(.int (128 : Int32)), (.int (((p5.toUInt32 >>> (((7 : Int32) * (p2 - p3)) &&& 31).toUInt32).toInt32) &&& (127 : Int32)))]))
        refine go (fun _ k => XS.ior X0.here hx rfl (hb hby d2_49) rfl k) ?_
        show Go p e below _ (s₁.setTop (mkF m 50 #[.val (.ref a1), .val (.int p2), .val (.int p3), .val (.int p4), .val (.int p5), .val (.int p6), .val (.int (p2 - p3)), .unset, .val (.int (((p5.toUInt32 >>> (((7 : Int32) * (p2 - p3)) &&& 31).toUInt32).toInt32) &&& (127 : Int32)))] [(.int ((((p5.toUInt32 >>> (((7 : Int32) * (p2 - p3)) &&& 31).toUInt32).toInt32) &&& (127 : Int32)) ||| (128 : Int32)))]))
        refine go (fun _ k => XS.istore X0.here hx rfl (hb hby d2_50) rfl (l' := #[.val (.ref a1), .val (.int p2), .val (.int p3), .val (.int p4), .val (.int p5), .val (.int p6), .val (.int (p2 - p3)), .unset, .val (.int ((((p5.toUInt32 >>> (((7 : Int32) * (p2 - p3)) &&& 31).toUInt32).toInt32) &&& (127 : Int32)) ||| (128 : Int32)))]) rfl k) ?_
        show Go p e below _ (s₁.setTop (mkF m 52 #[.val (.ref a1), .val (.int p2), .val (.int p3), .val (.int p4), .val (.int p5), .val (.int p6), .val (.int (p2 - p3)), .unset, .val (.int ((((p5.toUInt32 >>> (((7 : Int32) * (p2 - p3)) &&& 31).toUInt32).toInt32) &&& (127 : Int32)) ||| (128 : Int32)))] []))
        refine go (fun _ k => XS.iload X0.here hx rfl (hb hby d2_52) rfl  k) ?_
        show Go p e below _ (s₁.setTop (mkF m 54 #[.val (.ref a1), .val (.int p2), .val (.int p3), .val (.int p4), .val (.int p5), .val (.int p6), .val (.int (p2 - p3)), .unset, .val (.int ((((p5.toUInt32 >>> (((7 : Int32) * (p2 - p3)) &&& 31).toUInt32).toInt32) &&& (127 : Int32)) ||| (128 : Int32)))] [(.int ((((p5.toUInt32 >>> (((7 : Int32) * (p2 - p3)) &&& 31).toUInt32).toInt32) &&& (127 : Int32)) ||| (128 : Int32)))]))
        refine go (fun _ k => XS.i2b X0.here hx rfl (hb hby d2_54) rfl k) ?_
        show Go p e below _ (s₁.setTop (mkF m 55 #[.val (.ref a1), .val (.int p2), .val (.int p3), .val (.int p4), .val (.int p5), .val (.int p6), .val (.int (p2 - p3)), .unset, .val (.int ((((p5.toUInt32 >>> (((7 : Int32) * (p2 - p3)) &&& 31).toUInt32).toInt32) &&& (127 : Int32)) ||| (128 : Int32)))] [(.int (((((p5.toUInt32 >>> (((7 : Int32) * (p2 - p3)) &&& 31).toUInt32).toInt32) &&& (127 : Int32)) ||| (128 : Int32)).toInt8.toInt32))]))
        refine go (fun _ k => XS.istore X0.here hx rfl (hb hby d2_55) rfl (l' := #[.val (.ref a1), .val (.int p2), .val (.int p3), .val (.int p4), .val (.int p5), .val (.int p6), .val (.int (p2 - p3)), .val (.int (((((p5.toUInt32 >>> (((7 : Int32) * (p2 - p3)) &&& 31).toUInt32).toInt32) &&& (127 : Int32)) ||| (128 : Int32)).toInt8.toInt32)), .val (.int ((((p5.toUInt32 >>> (((7 : Int32) * (p2 - p3)) &&& 31).toUInt32).toInt32) &&& (127 : Int32)) ||| (128 : Int32)))]) rfl k) ?_
        show Go p e below _ (s₁.setTop (mkF m 57 #[.val (.ref a1), .val (.int p2), .val (.int p3), .val (.int p4), .val (.int p5), .val (.int p6), .val (.int (p2 - p3)), .val (.int (((((p5.toUInt32 >>> (((7 : Int32) * (p2 - p3)) &&& 31).toUInt32).toInt32) &&& (127 : Int32)) ||| (128 : Int32)).toInt8.toInt32)), .val (.int ((((p5.toUInt32 >>> (((7 : Int32) * (p2 - p3)) &&& 31).toUInt32).toInt32) &&& (127 : Int32)) ||| (128 : Int32)))] []))
        refine go (fun _ k => XS.aloadN X0.here hx rfl (hb hby d2_57) rfl rfl  k) ?_
        show Go p e below _ (s₁.setTop (mkF m 58 #[.val (.ref a1), .val (.int p2), .val (.int p3), .val (.int p4), .val (.int p5), .val (.int p6), .val (.int (p2 - p3)), .val (.int (((((p5.toUInt32 >>> (((7 : Int32) * (p2 - p3)) &&& 31).toUInt32).toInt32) &&& (127 : Int32)) ||| (128 : Int32)).toInt8.toInt32)), .val (.int ((((p5.toUInt32 >>> (((7 : Int32) * (p2 - p3)) &&& 31).toUInt32).toInt32) &&& (127 : Int32)) ||| (128 : Int32)))] [(.ref a1)]))
        refine go (fun _ k => XS.iloadN X0.here hx rfl (hb hby d2_58) rfl  k) ?_
        show Go p e below _ (s₁.setTop (mkF m 59 #[.val (.ref a1), .val (.int p2), .val (.int p3), .val (.int p4), .val (.int p5), .val (.int p6), .val (.int (p2 - p3)), .val (.int (((((p5.toUInt32 >>> (((7 : Int32) * (p2 - p3)) &&& 31).toUInt32).toInt32) &&& (127 : Int32)) ||| (128 : Int32)).toInt8.toInt32)), .val (.int ((((p5.toUInt32 >>> (((7 : Int32) * (p2 - p3)) &&& 31).toUInt32).toInt32) &&& (127 : Int32)) ||| (128 : Int32)))] [(.int p2), (.ref a1)]))
        obtain ⟨cl2, Ar2, q2, S2, M2, H2, G2⟩ := V_a1
        have hin2 : ¬ (p2 < 0 ∨ cl2.slots.size ≤ (p2).toNatClampNeg) := inb_of S2 hp
        have hat2 : cl2.slots[(p2).toNatClampNeg]? = some (.int (xs.getD (p2).toNatClampNeg 0)) := Has.at H2 hin2 (own_map xs _)
        refine go (X0.baloadBytes hx (j := p2) (v := (.int (xs.getD (p2).toNatClampNeg 0))) (by rw [e0]; exact Ar2.1) (State.isArrayOf_alike hZ.alike Ar2.2.1) Ar2.2.2 hin2 hat2 (g := (mkF m 59 #[.val (.ref a1), .val (.int p2), .val (.int p3), .val (.int p4), .val (.int p5), .val (.int p6), .val (.int (p2 - p3)), .val (.int (((((p5.toUInt32 >>> (((7 : Int32) * (p2 - p3)) &&& 31).toUInt32).toInt32) &&& (127 : Int32)) ||| (128 : Int32)).toInt8.toInt32)), .val (.int ((((p5.toUInt32 >>> (((7 : Int32) * (p2 - p3)) &&& 31).toUInt32).toInt32) &&& (127 : Int32)) ||| (128 : Int32)))] [(.int p2), (.ref a1)])) rfl rfl (hb hby d2_59)) ?_
        show Go p e below _ (s₁.setTop (mkF m 60 #[.val (.ref a1), .val (.int p2), .val (.int p3), .val (.int p4), .val (.int p5), .val (.int p6), .val (.int (p2 - p3)), .val (.int (((((p5.toUInt32 >>> (((7 : Int32) * (p2 - p3)) &&& 31).toUInt32).toInt32) &&& (127 : Int32)) ||| (128 : Int32)).toInt8.toInt32)), .val (.int ((((p5.toUInt32 >>> (((7 : Int32) * (p2 - p3)) &&& 31).toUInt32).toInt32) &&& (127 : Int32)) ||| (128 : Int32)))] [(.int (xs.getD (p2).toNatClampNeg 0))]))
        refine go (fun _ k => XS.iload X0.here hx rfl (hb hby d2_60) rfl  k) ?_
        show Go p e below _ (s₁.setTop (mkF m 62 #[.val (.ref a1), .val (.int p2), .val (.int p3), .val (.int p4), .val (.int p5), .val (.int p6), .val (.int (p2 - p3)), .val (.int (((((p5.toUInt32 >>> (((7 : Int32) * (p2 - p3)) &&& 31).toUInt32).toInt32) &&& (127 : Int32)) ||| (128 : Int32)).toInt8.toInt32)), .val (.int ((((p5.toUInt32 >>> (((7 : Int32) * (p2 - p3)) &&& 31).toUInt32).toInt32) &&& (127 : Int32)) ||| (128 : Int32)))] [(.int (((((p5.toUInt32 >>> (((7 : Int32) * (p2 - p3)) &&& 31).toUInt32).toInt32) &&& (127 : Int32)) ||| (128 : Int32)).toInt8.toInt32)), (.int (xs.getD (p2).toNatClampNeg 0))]))
        by_cases hc62_5 : (xs.getD (p2).toNatClampNeg 0) = (((((p5.toUInt32 >>> (((7 : Int32) * (p2 - p3)) &&& 31).toUInt32).toInt32) &&& (127 : Int32)) ||| (128 : Int32)).toInt8.toInt32)
        · skip
          refine go (fun _ k => XS.icmpNo X0.here hx rfl (hb hby d2_62) rfl (teq hc62_5).2 k) ?_
          show Go p e below _ (s₁.setTop (mkF m 65 #[.val (.ref a1), .val (.int p2), .val (.int p3), .val (.int p4), .val (.int p5), .val (.int p6), .val (.int (p2 - p3)), .val (.int (((((p5.toUInt32 >>> (((7 : Int32) * (p2 - p3)) &&& 31).toUInt32).toInt32) &&& (127 : Int32)) ||| (128 : Int32)).toInt8.toInt32)), .val (.int ((((p5.toUInt32 >>> (((7 : Int32) * (p2 - p3)) &&& 31).toUInt32).toInt32) &&& (127 : Int32)) ||| (128 : Int32)))] []))
          refine go (fun _ k => XS.iconst X0.here hx rfl (hb hby d2_65) k) ?_
          show Go p e below _ (s₁.setTop (mkF m 66 #[.val (.ref a1), .val (.int p2), .val (.int p3), .val (.int p4), .val (.int p5), .val (.int p6), .val (.int (p2 - p3)), .val (.int (((((p5.toUInt32 >>> (((7 : Int32) * (p2 - p3)) &&& 31).toUInt32).toInt32) &&& (127 : Int32)) ||| (128 : Int32)).toInt8.toInt32)), .val (.int ((((p5.toUInt32 >>> (((7 : Int32) * (p2 - p3)) &&& 31).toUInt32).toInt32) &&& (127 : Int32)) ||| (128 : Int32)))] [(.int (1 : Int32))]))
          refine go (fun _ k => XS.goto X0.here hx rfl (pc0 := 66) (pc' := 70) rfl (hb hby d2_66) (by decide) (by decide) k) ?_
          show Go p e below _ (s₁.setTop (mkF m 70 #[.val (.ref a1), .val (.int p2), .val (.int p3), .val (.int p4), .val (.int p5), .val (.int p6), .val (.int (p2 - p3)), .val (.int (((((p5.toUInt32 >>> (((7 : Int32) * (p2 - p3)) &&& 31).toUInt32).toInt32) &&& (127 : Int32)) ||| (128 : Int32)).toInt8.toInt32)), .val (.int ((((p5.toUInt32 >>> (((7 : Int32) * (p2 - p3)) &&& 31).toUInt32).toInt32) &&& (127 : Int32)) ||| (128 : Int32)))] [(.int (1 : Int32))]))
          obtain ⟨fs, hr, hrun, hended, hW, hsame⟩ := X0.leave (v := some (.int (1 : Int32))) (fun h => by rw [Bd.returns] at h; cases h)
          refine leaf (T := s₁) ⟨fs, retN X0 hx (t := .boolean) Bd.returns (by simp) (hb hby d2_70) hr, hrun, hended, hW, hsame⟩ ?_ (by decide) (by decide)
          show Q2 Z a1 p2 p3 p4 p5 p6 kt xs h0 n0 _ s₁.heap _
          rw [e0]
          exact ⟨(by rw [bz_t (by simp only [own_want, if_neg hc7_1, if_pos hc13_3, if_pos hc41_4]; exact hc62_5)]), N0, rfl⟩
        · skip
          refine go (fun _ k => XS.icmpYes X0.here hx rfl (pc0 := 62) (pc' := 69) rfl (hb hby d2_62) rfl (feq hc62_5).2 (by decide) (by decide) k) ?_
          show Go p e below _ (s₁.setTop (mkF m 69 #[.val (.ref a1), .val (.int p2), .val (.int p3), .val (.int p4), .val (.int p5), .val (.int p6), .val (.int (p2 - p3)), .val (.int (((((p5.toUInt32 >>> (((7 : Int32) * (p2 - p3)) &&& 31).toUInt32).toInt32) &&& (127 : Int32)) ||| (128 : Int32)).toInt8.toInt32)), .val (.int ((((p5.toUInt32 >>> (((7 : Int32) * (p2 - p3)) &&& 31).toUInt32).toInt32) &&& (127 : Int32)) ||| (128 : Int32)))] []))
          refine go (fun _ k => XS.iconst X0.here hx rfl (hb hby d2_69) k) ?_
          show Go p e below _ (s₁.setTop (mkF m 70 #[.val (.ref a1), .val (.int p2), .val (.int p3), .val (.int p4), .val (.int p5), .val (.int p6), .val (.int (p2 - p3)), .val (.int (((((p5.toUInt32 >>> (((7 : Int32) * (p2 - p3)) &&& 31).toUInt32).toInt32) &&& (127 : Int32)) ||| (128 : Int32)).toInt8.toInt32)), .val (.int ((((p5.toUInt32 >>> (((7 : Int32) * (p2 - p3)) &&& 31).toUInt32).toInt32) &&& (127 : Int32)) ||| (128 : Int32)))] [(.int (0 : Int32))]))
          obtain ⟨fs, hr, hrun, hended, hW, hsame⟩ := X0.leave (v := some (.int (0 : Int32))) (fun h => by rw [Bd.returns] at h; cases h)
          refine leaf (T := s₁) ⟨fs, retN X0 hx (t := .boolean) Bd.returns (by simp) (hb hby d2_70) hr, hrun, hended, hW, hsame⟩ ?_ (by decide) (by decide)
          show Q2 Z a1 p2 p3 p4 p5 p6 kt xs h0 n0 _ s₁.heap _
          rw [e0]
          exact ⟨(by rw [bz_f (by simp only [own_want, if_neg hc7_1, if_pos hc13_3, if_pos hc41_4]; exact hc62_5)]), N0, rfl⟩
      · skip
        refine go (fun _ k => XS.icmpYes X0.here hx rfl (pc0 := 41) (pc' := 52) rfl (hb hby d2_41) rfl (flt hc41_4).2.1 (by decide) (by decide) k) ?_
        show Go p e below _ (s₁.setTop (mkF m 52 #[.val (.ref a1), .val (.int p2), .val (.int p3), .val (.int p4), .val (.int p5), .val (.int p6), .val (.int (p2 - p3)), .unset, .val (.int (((p5.toUInt32 >>> (((7 : Int32) * (p2 - p3)) &&& 31).toUInt32).toInt32) &&& (127 : Int32)))] []))
        refine go (fun _ k => XS.iload X0.here hx rfl (hb hby d2_52) rfl  k) ?_
        show Go p e below _ (s₁.setTop (mkF m 54 #[.val (.ref a1), .val (.int p2), .val (.int p3), .val (.int p4), .val (.int p5), .val (.int p6), .val (.int (p2 - p3)), .unset, .val (.int (((p5.toUInt32 >>> (((7 : Int32) * (p2 - p3)) &&& 31).toUInt32).toInt32) &&& (127 : Int32)))] [(.int (((p5.toUInt32 >>> (((7 : Int32) * (p2 - p3)) &&& 31).toUInt32).toInt32) &&& (127 : Int32)))]))
        refine go (fun _ k => XS.i2b X0.here hx rfl (hb hby d2_54) rfl k) ?_
        show Go p e below _ (s₁.setTop (mkF m 55 #[.val (.ref a1), .val (.int p2), .val (.int p3), .val (.int p4), .val (.int p5), .val (.int p6), .val (.int (p2 - p3)), .unset, .val (.int (((p5.toUInt32 >>> (((7 : Int32) * (p2 - p3)) &&& 31).toUInt32).toInt32) &&& (127 : Int32)))] [(.int ((((p5.toUInt32 >>> (((7 : Int32) * (p2 - p3)) &&& 31).toUInt32).toInt32) &&& (127 : Int32)).toInt8.toInt32))]))
        refine go (fun _ k => XS.istore X0.here hx rfl (hb hby d2_55) rfl (l' := #[.val (.ref a1), .val (.int p2), .val (.int p3), .val (.int p4), .val (.int p5), .val (.int p6), .val (.int (p2 - p3)), .val (.int ((((p5.toUInt32 >>> (((7 : Int32) * (p2 - p3)) &&& 31).toUInt32).toInt32) &&& (127 : Int32)).toInt8.toInt32)), .val (.int (((p5.toUInt32 >>> (((7 : Int32) * (p2 - p3)) &&& 31).toUInt32).toInt32) &&& (127 : Int32)))]) rfl k) ?_
        show Go p e below _ (s₁.setTop (mkF m 57 #[.val (.ref a1), .val (.int p2), .val (.int p3), .val (.int p4), .val (.int p5), .val (.int p6), .val (.int (p2 - p3)), .val (.int ((((p5.toUInt32 >>> (((7 : Int32) * (p2 - p3)) &&& 31).toUInt32).toInt32) &&& (127 : Int32)).toInt8.toInt32)), .val (.int (((p5.toUInt32 >>> (((7 : Int32) * (p2 - p3)) &&& 31).toUInt32).toInt32) &&& (127 : Int32)))] []))
        refine go (fun _ k => XS.aloadN X0.here hx rfl (hb hby d2_57) rfl rfl  k) ?_
        show Go p e below _ (s₁.setTop (mkF m 58 #[.val (.ref a1), .val (.int p2), .val (.int p3), .val (.int p4), .val (.int p5), .val (.int p6), .val (.int (p2 - p3)), .val (.int ((((p5.toUInt32 >>> (((7 : Int32) * (p2 - p3)) &&& 31).toUInt32).toInt32) &&& (127 : Int32)).toInt8.toInt32)), .val (.int (((p5.toUInt32 >>> (((7 : Int32) * (p2 - p3)) &&& 31).toUInt32).toInt32) &&& (127 : Int32)))] [(.ref a1)]))
        refine go (fun _ k => XS.iloadN X0.here hx rfl (hb hby d2_58) rfl  k) ?_
        show Go p e below _ (s₁.setTop (mkF m 59 #[.val (.ref a1), .val (.int p2), .val (.int p3), .val (.int p4), .val (.int p5), .val (.int p6), .val (.int (p2 - p3)), .val (.int ((((p5.toUInt32 >>> (((7 : Int32) * (p2 - p3)) &&& 31).toUInt32).toInt32) &&& (127 : Int32)).toInt8.toInt32)), .val (.int (((p5.toUInt32 >>> (((7 : Int32) * (p2 - p3)) &&& 31).toUInt32).toInt32) &&& (127 : Int32)))] [(.int p2), (.ref a1)]))
        obtain ⟨cl3, Ar3, q3, S3, M3, H3, G3⟩ := V_a1
        have hin3 : ¬ (p2 < 0 ∨ cl3.slots.size ≤ (p2).toNatClampNeg) := inb_of S3 hp
        have hat3 : cl3.slots[(p2).toNatClampNeg]? = some (.int (xs.getD (p2).toNatClampNeg 0)) := Has.at H3 hin3 (own_map xs _)
        refine go (X0.baloadBytes hx (j := p2) (v := (.int (xs.getD (p2).toNatClampNeg 0))) (by rw [e0]; exact Ar3.1) (State.isArrayOf_alike hZ.alike Ar3.2.1) Ar3.2.2 hin3 hat3 (g := (mkF m 59 #[.val (.ref a1), .val (.int p2), .val (.int p3), .val (.int p4), .val (.int p5), .val (.int p6), .val (.int (p2 - p3)), .val (.int ((((p5.toUInt32 >>> (((7 : Int32) * (p2 - p3)) &&& 31).toUInt32).toInt32) &&& (127 : Int32)).toInt8.toInt32)), .val (.int (((p5.toUInt32 >>> (((7 : Int32) * (p2 - p3)) &&& 31).toUInt32).toInt32) &&& (127 : Int32)))] [(.int p2), (.ref a1)])) rfl rfl (hb hby d2_59)) ?_
        show Go p e below _ (s₁.setTop (mkF m 60 #[.val (.ref a1), .val (.int p2), .val (.int p3), .val (.int p4), .val (.int p5), .val (.int p6), .val (.int (p2 - p3)), .val (.int ((((p5.toUInt32 >>> (((7 : Int32) * (p2 - p3)) &&& 31).toUInt32).toInt32) &&& (127 : Int32)).toInt8.toInt32)), .val (.int (((p5.toUInt32 >>> (((7 : Int32) * (p2 - p3)) &&& 31).toUInt32).toInt32) &&& (127 : Int32)))] [(.int (xs.getD (p2).toNatClampNeg 0))]))
        refine go (fun _ k => XS.iload X0.here hx rfl (hb hby d2_60) rfl  k) ?_
        show Go p e below _ (s₁.setTop (mkF m 62 #[.val (.ref a1), .val (.int p2), .val (.int p3), .val (.int p4), .val (.int p5), .val (.int p6), .val (.int (p2 - p3)), .val (.int ((((p5.toUInt32 >>> (((7 : Int32) * (p2 - p3)) &&& 31).toUInt32).toInt32) &&& (127 : Int32)).toInt8.toInt32)), .val (.int (((p5.toUInt32 >>> (((7 : Int32) * (p2 - p3)) &&& 31).toUInt32).toInt32) &&& (127 : Int32)))] [(.int ((((p5.toUInt32 >>> (((7 : Int32) * (p2 - p3)) &&& 31).toUInt32).toInt32) &&& (127 : Int32)).toInt8.toInt32)), (.int (xs.getD (p2).toNatClampNeg 0))]))
        by_cases hc62_6 : (xs.getD (p2).toNatClampNeg 0) = ((((p5.toUInt32 >>> (((7 : Int32) * (p2 - p3)) &&& 31).toUInt32).toInt32) &&& (127 : Int32)).toInt8.toInt32)
        · skip
          refine go (fun _ k => XS.icmpNo X0.here hx rfl (hb hby d2_62) rfl (teq hc62_6).2 k) ?_
          show Go p e below _ (s₁.setTop (mkF m 65 #[.val (.ref a1), .val (.int p2), .val (.int p3), .val (.int p4), .val (.int p5), .val (.int p6), .val (.int (p2 - p3)), .val (.int ((((p5.toUInt32 >>> (((7 : Int32) * (p2 - p3)) &&& 31).toUInt32).toInt32) &&& (127 : Int32)).toInt8.toInt32)), .val (.int (((p5.toUInt32 >>> (((7 : Int32) * (p2 - p3)) &&& 31).toUInt32).toInt32) &&& (127 : Int32)))] []))
          refine go (fun _ k => XS.iconst X0.here hx rfl (hb hby d2_65) k) ?_
          show Go p e below _ (s₁.setTop (mkF m 66 #[.val (.ref a1), .val (.int p2), .val (.int p3), .val (.int p4), .val (.int p5), .val (.int p6), .val (.int (p2 - p3)), .val (.int ((((p5.toUInt32 >>> (((7 : Int32) * (p2 - p3)) &&& 31).toUInt32).toInt32) &&& (127 : Int32)).toInt8.toInt32)), .val (.int (((p5.toUInt32 >>> (((7 : Int32) * (p2 - p3)) &&& 31).toUInt32).toInt32) &&& (127 : Int32)))] [(.int (1 : Int32))]))
          refine go (fun _ k => XS.goto X0.here hx rfl (pc0 := 66) (pc' := 70) rfl (hb hby d2_66) (by decide) (by decide) k) ?_
          show Go p e below _ (s₁.setTop (mkF m 70 #[.val (.ref a1), .val (.int p2), .val (.int p3), .val (.int p4), .val (.int p5), .val (.int p6), .val (.int (p2 - p3)), .val (.int ((((p5.toUInt32 >>> (((7 : Int32) * (p2 - p3)) &&& 31).toUInt32).toInt32) &&& (127 : Int32)).toInt8.toInt32)), .val (.int (((p5.toUInt32 >>> (((7 : Int32) * (p2 - p3)) &&& 31).toUInt32).toInt32) &&& (127 : Int32)))] [(.int (1 : Int32))]))
          obtain ⟨fs, hr, hrun, hended, hW, hsame⟩ := X0.leave (v := some (.int (1 : Int32))) (fun h => by rw [Bd.returns] at h; cases h)
          refine leaf (T := s₁) ⟨fs, retN X0 hx (t := .boolean) Bd.returns (by simp) (hb hby d2_70) hr, hrun, hended, hW, hsame⟩ ?_ (by decide) (by decide)
          show Q2 Z a1 p2 p3 p4 p5 p6 kt xs h0 n0 _ s₁.heap _
          rw [e0]
          exact ⟨(by rw [bz_t (by simp only [own_want, if_neg hc7_1, if_pos hc13_3, if_neg hc41_4]; exact hc62_6)]), N0, rfl⟩
        · skip
          refine go (fun _ k => XS.icmpYes X0.here hx rfl (pc0 := 62) (pc' := 69) rfl (hb hby d2_62) rfl (feq hc62_6).2 (by decide) (by decide) k) ?_
          show Go p e below _ (s₁.setTop (mkF m 69 #[.val (.ref a1), .val (.int p2), .val (.int p3), .val (.int p4), .val (.int p5), .val (.int p6), .val (.int (p2 - p3)), .val (.int ((((p5.toUInt32 >>> (((7 : Int32) * (p2 - p3)) &&& 31).toUInt32).toInt32) &&& (127 : Int32)).toInt8.toInt32)), .val (.int (((p5.toUInt32 >>> (((7 : Int32) * (p2 - p3)) &&& 31).toUInt32).toInt32) &&& (127 : Int32)))] []))
          refine go (fun _ k => XS.iconst X0.here hx rfl (hb hby d2_69) k) ?_
          show Go p e below _ (s₁.setTop (mkF m 70 #[.val (.ref a1), .val (.int p2), .val (.int p3), .val (.int p4), .val (.int p5), .val (.int p6), .val (.int (p2 - p3)), .val (.int ((((p5.toUInt32 >>> (((7 : Int32) * (p2 - p3)) &&& 31).toUInt32).toInt32) &&& (127 : Int32)).toInt8.toInt32)), .val (.int (((p5.toUInt32 >>> (((7 : Int32) * (p2 - p3)) &&& 31).toUInt32).toInt32) &&& (127 : Int32)))] [(.int (0 : Int32))]))
          obtain ⟨fs, hr, hrun, hended, hW, hsame⟩ := X0.leave (v := some (.int (0 : Int32))) (fun h => by rw [Bd.returns] at h; cases h)
          refine leaf (T := s₁) ⟨fs, retN X0 hx (t := .boolean) Bd.returns (by simp) (hb hby d2_70) hr, hrun, hended, hW, hsame⟩ ?_ (by decide) (by decide)
          show Q2 Z a1 p2 p3 p4 p5 p6 kt xs h0 n0 _ s₁.heap _
          rw [e0]
          exact ⟨(by rw [bz_f (by simp only [own_want, if_neg hc7_1, if_pos hc13_3, if_neg hc41_4]; exact hc62_6)]), N0, rfl⟩
    · skip
      refine go (fun _ k => XS.icmpNo X0.here hx rfl (hb hby d2_13) rfl (flt hc13_3).1 k) ?_
      show Go p e below _ (s₁.setTop (mkF m 16 #[.val (.ref a1), .val (.int p2), .val (.int p3), .val (.int p4), .val (.int p5), .val (.int p6), .val (.int (p2 - p3)), .unset, .unset] []))
      refine go (fun _ k => XS.iload X0.here hx rfl (hb hby d2_16) rfl  k) ?_
      show Go p e below _ (s₁.setTop (mkF m 18 #[.val (.ref a1), .val (.int p2), .val (.int p3), .val (.int p4), .val (.int p5), .val (.int p6), .val (.int (p2 - p3)), .unset, .unset] [(.int p6)]))
      refine go (fun _ k => XS.istore X0.here hx rfl (hb hby d2_18) rfl (l' := #[.val (.ref a1), .val (.int p2), .val (.int p3), .val (.int p4), .val (.int p5), .val (.int p6), .val (.int (p2 - p3)), .val (.int p6), .unset]) rfl k) ?_
      show Go p e below _ (s₁.setTop (mkF m 20 #[.val (.ref a1), .val (.int p2), .val (.int p3), .val (.int p4), .val (.int p5), .val (.int p6), .val (.int (p2 - p3)), .val (.int p6), .unset] []))
      refine go (fun _ k => XS.goto X0.here hx rfl (pc0 := 20) (pc' := 57) rfl (hb hby d2_20) (by decide) (by decide) k) ?_
      show Go p e below _ (s₁.setTop (mkF m 57 #[.val (.ref a1), .val (.int p2), .val (.int p3), .val (.int p4), .val (.int p5), .val (.int p6), .val (.int (p2 - p3)), .val (.int p6), .unset] []))
      refine go (fun _ k => XS.aloadN X0.here hx rfl (hb hby d2_57) rfl rfl  k) ?_
      show Go p e below _ (s₁.setTop (mkF m 58 #[.val (.ref a1), .val (.int p2), .val (.int p3), .val (.int p4), .val (.int p5), .val (.int p6), .val (.int (p2 - p3)), .val (.int p6), .unset] [(.ref a1)]))
      refine go (fun _ k => XS.iloadN X0.here hx rfl (hb hby d2_58) rfl  k) ?_
      show Go p e below _ (s₁.setTop (mkF m 59 #[.val (.ref a1), .val (.int p2), .val (.int p3), .val (.int p4), .val (.int p5), .val (.int p6), .val (.int (p2 - p3)), .val (.int p6), .unset] [(.int p2), (.ref a1)]))
      obtain ⟨cl4, Ar4, q4, S4, M4, H4, G4⟩ := V_a1
      have hin4 : ¬ (p2 < 0 ∨ cl4.slots.size ≤ (p2).toNatClampNeg) := inb_of S4 hp
      have hat4 : cl4.slots[(p2).toNatClampNeg]? = some (.int (xs.getD (p2).toNatClampNeg 0)) := Has.at H4 hin4 (own_map xs _)
      refine go (X0.baloadBytes hx (j := p2) (v := (.int (xs.getD (p2).toNatClampNeg 0))) (by rw [e0]; exact Ar4.1) (State.isArrayOf_alike hZ.alike Ar4.2.1) Ar4.2.2 hin4 hat4 (g := (mkF m 59 #[.val (.ref a1), .val (.int p2), .val (.int p3), .val (.int p4), .val (.int p5), .val (.int p6), .val (.int (p2 - p3)), .val (.int p6), .unset] [(.int p2), (.ref a1)])) rfl rfl (hb hby d2_59)) ?_
      show Go p e below _ (s₁.setTop (mkF m 60 #[.val (.ref a1), .val (.int p2), .val (.int p3), .val (.int p4), .val (.int p5), .val (.int p6), .val (.int (p2 - p3)), .val (.int p6), .unset] [(.int (xs.getD (p2).toNatClampNeg 0))]))
      refine go (fun _ k => XS.iload X0.here hx rfl (hb hby d2_60) rfl  k) ?_
      show Go p e below _ (s₁.setTop (mkF m 62 #[.val (.ref a1), .val (.int p2), .val (.int p3), .val (.int p4), .val (.int p5), .val (.int p6), .val (.int (p2 - p3)), .val (.int p6), .unset] [(.int p6), (.int (xs.getD (p2).toNatClampNeg 0))]))
      by_cases hc62_7 : (xs.getD (p2).toNatClampNeg 0) = p6
      · skip
        refine go (fun _ k => XS.icmpNo X0.here hx rfl (hb hby d2_62) rfl (teq hc62_7).2 k) ?_
        show Go p e below _ (s₁.setTop (mkF m 65 #[.val (.ref a1), .val (.int p2), .val (.int p3), .val (.int p4), .val (.int p5), .val (.int p6), .val (.int (p2 - p3)), .val (.int p6), .unset] []))
        refine go (fun _ k => XS.iconst X0.here hx rfl (hb hby d2_65) k) ?_
        show Go p e below _ (s₁.setTop (mkF m 66 #[.val (.ref a1), .val (.int p2), .val (.int p3), .val (.int p4), .val (.int p5), .val (.int p6), .val (.int (p2 - p3)), .val (.int p6), .unset] [(.int (1 : Int32))]))
        refine go (fun _ k => XS.goto X0.here hx rfl (pc0 := 66) (pc' := 70) rfl (hb hby d2_66) (by decide) (by decide) k) ?_
        show Go p e below _ (s₁.setTop (mkF m 70 #[.val (.ref a1), .val (.int p2), .val (.int p3), .val (.int p4), .val (.int p5), .val (.int p6), .val (.int (p2 - p3)), .val (.int p6), .unset] [(.int (1 : Int32))]))
        obtain ⟨fs, hr, hrun, hended, hW, hsame⟩ := X0.leave (v := some (.int (1 : Int32))) (fun h => by rw [Bd.returns] at h; cases h)
        refine leaf (T := s₁) ⟨fs, retN X0 hx (t := .boolean) Bd.returns (by simp) (hb hby d2_70) hr, hrun, hended, hW, hsame⟩ ?_ (by decide) (by decide)
        show Q2 Z a1 p2 p3 p4 p5 p6 kt xs h0 n0 _ s₁.heap _
        rw [e0]
        exact ⟨(by rw [bz_t (by simp only [own_want, if_neg hc7_1, if_neg hc13_3]; exact hc62_7)]), N0, rfl⟩
      · skip
        refine go (fun _ k => XS.icmpYes X0.here hx rfl (pc0 := 62) (pc' := 69) rfl (hb hby d2_62) rfl (feq hc62_7).2 (by decide) (by decide) k) ?_
        show Go p e below _ (s₁.setTop (mkF m 69 #[.val (.ref a1), .val (.int p2), .val (.int p3), .val (.int p4), .val (.int p5), .val (.int p6), .val (.int (p2 - p3)), .val (.int p6), .unset] []))
        refine go (fun _ k => XS.iconst X0.here hx rfl (hb hby d2_69) k) ?_
        show Go p e below _ (s₁.setTop (mkF m 70 #[.val (.ref a1), .val (.int p2), .val (.int p3), .val (.int p4), .val (.int p5), .val (.int p6), .val (.int (p2 - p3)), .val (.int p6), .unset] [(.int (0 : Int32))]))
        obtain ⟨fs, hr, hrun, hended, hW, hsame⟩ := X0.leave (v := some (.int (0 : Int32))) (fun h => by rw [Bd.returns] at h; cases h)
        refine leaf (T := s₁) ⟨fs, retN X0 hx (t := .boolean) Bd.returns (by simp) (hb hby d2_70) hr, hrun, hended, hW, hsame⟩ ?_ (by decide) (by decide)
        show Q2 Z a1 p2 p3 p4 p5 p6 kt xs h0 n0 _ s₁.heap _
        rw [e0]
        exact ⟨(by rw [bz_f (by simp only [own_want, if_neg hc7_1, if_neg hc13_3]; exact hc62_7)]), N0, rfl⟩
theorem pd_0 : parseMethodDescriptor "([BII)I" = some ⟨[(.array .byte), .int, .int], some .int⟩ := by decide +kernel
theorem pd_1 : parseMethodDescriptor "([BIIIIB)Z" = some ⟨[(.array .byte), .int, .int, .int, .int, .byte], some .boolean⟩ := by decide +kernel
theorem ef_rm0 (m : MethodId) (p1 : Int32) (p2 : Int32) (p3 : Int32) (p4 : Int32) : entryFrame m #[(.int p1), (.int p2), (.int p3), (.int p4)] maxLocals = mkF m 0 #[.val (.int p1), .val (.int p2), .val (.int p3), .val (.int p4), .unset, .unset, .unset, .unset, .unset, .unset] [] := by first | (simp [entryFrame, mkF, argsToLocals, Value.category, maxLocals]; done) | rfl
def Q0 (Z : State) (p1 : Int32) (p2 : Int32) (p3 : Int32) (p4 : Int32) (h0 : Heap) (n0 : Nat) (v : Option Value) (h : Heap) (L : List Loc) : Prop := v = some (.int (1 : Int32)) ∧ Fr n0 L
set_option maxRecDepth 65536 in
set_option maxHeartbeats 40000000 in
theorem rm0 (l : Launch) (Z : State) (a0 : Array Value) (hw : ∀ d ∈ tables_1, d.before a0 Z = true) (ws : List Jvm.Cond) (p1 : Int32) (p2 : Int32) (p3 : Int32) (p4 : Int32) (h0 : Heap) (n0 : Nat) (Z0 : n0 ≤ h0.size) :
    MetFree l x (head1 (Jvm.Cond.code x code maxLocals ret :: ws) room_1) (fun a U => a = #[(.int p1), (.int p2), (.int p3), (.int p4)] ∧ Z.Warmed39 U.vm ∧ U.heap = h0) (fun _ _ _ _ _ => True) (fun _ U o U' => ∃ v L, o = .returned v ∧ Q0 Z p1 p2 p3 p4 h0 n0 v U'.heap L ∧ FrameEnd U o U' L room_1.cells room_1.slots) := by
  refine MetFree.of_bodySF (plainFor_of_name pn_1) hisR ?_
  intro p e s m args below meth c s₁ Bd hml0 hP hK
  obtain ⟨rfl, hZ, hh⟩ := hP
  have hx := Bd.exec
  have hby := Bd.bytes
  have hml : c.maxLocals = 10 := hml0
  have hown : s.vm.findClass "com/example/drienerlo/drienerlo/index/VarintWritePinLaw" = some m.cls := findClass_of_methodNamed Bd.named
  have hnm := (name_of_methodNamed Bd.named Bd.method).1
  have X0 : Stand p l e room_1 s m #[(.int p1), (.int p2), (.int p3), (.int p4)] below meth c s₁ [] 0 0 := Stand.of_body Bd
  have e0 : s₁.heap = h0 := by rw [← hh, Bd.state]; rfl
  have N0 := Fr.nil n0
  show Go p e below (PP s below (Q0 Z p1 p2 p3 p4 h0 n0) room_1.cells room_1.slots) (s₁.setTop (entryFrame m #[(.int p1), (.int p2), (.int p3), (.int p4)] maxLocals))
  refine go (fun _ k => castTop (ef_rm0 m p1 p2 p3 p4) k) ?_
  show Go p e below _ (s₁.setTop (mkF m 0 #[.val (.int p1), .val (.int p2), .val (.int p3), .val (.int p4), .unset, .unset, .unset, .unset, .unset, .unset] []))
  refine go (fun _ k => XS.iloadN X0.here hx rfl (hb hby at_0) rfl  k) ?_
  show Go p e below _ (s₁.setTop (mkF m 1 #[.val (.int p1), .val (.int p2), .val (.int p3), .val (.int p4), .unset, .unset, .unset, .unset, .unset, .unset] [(.int p1)]))
  refine go (X0.ldcInt hx hown (mvT hZ (hw _ (List.mem_of_getElem? (i := 0) rfl))) (g := (mkF m 1 #[.val (.int p1), .val (.int p2), .val (.int p3), .val (.int p4), .unset, .unset, .unset, .unset, .unset, .unset] [(.int p1)])) rfl (hb hby at_1)) ?_
  show Go p e below _ (s₁.setTop (mkF m 3 #[.val (.int p1), .val (.int p2), .val (.int p3), .val (.int p4), .unset, .unset, .unset, .unset, .unset, .unset] [(.int (2147483647 : Int32)), (.int p1)]))
  refine go (fun _ k => XS.iand X0.here hx rfl (hb hby at_3) rfl k) ?_
  show Go p e below _ (s₁.setTop (mkF m 4 #[.val (.int p1), .val (.int p2), .val (.int p3), .val (.int p4), .unset, .unset, .unset, .unset, .unset, .unset] [(.int (p1 &&& (2147483647 : Int32)))]))
  refine go (fun _ k => XS.iloadN X0.here hx rfl (hb hby at_4) rfl  k) ?_
  show Go p e below _ (s₁.setTop (mkF m 5 #[.val (.int p1), .val (.int p2), .val (.int p3), .val (.int p4), .unset, .unset, .unset, .unset, .unset, .unset] [(.int p2), (.int (p1 &&& (2147483647 : Int32)))]))
  refine go (fun _ k => XS.bipush X0.here hx rfl (hb hby at_5) k) ?_
  show Go p e below _ (s₁.setTop (mkF m 7 #[.val (.int p1), .val (.int p2), .val (.int p3), .val (.int p4), .unset, .unset, .unset, .unset, .unset, .unset] [(.int (31 : Int32)), (.int p2), (.int (p1 &&& (2147483647 : Int32)))]))
  refine go (fun _ k => XS.iand X0.here hx rfl (hb hby at_7) rfl k) ?_
  show Go p e below _ (s₁.setTop (mkF m 8 #[.val (.int p1), .val (.int p2), .val (.int p3), .val (.int p4), .unset, .unset, .unset, .unset, .unset, .unset] [(.int (p2 &&& (31 : Int32))), (.int (p1 &&& (2147483647 : Int32)))]))
  refine go (fun _ k => XS.iushr X0.here hx rfl (hb hby at_8) rfl k) ?_
  show Go p e below _ (s₁.setTop (mkF m 9 #[.val (.int p1), .val (.int p2), .val (.int p3), .val (.int p4), .unset, .unset, .unset, .unset, .unset, .unset] [(.int (((p1 &&& (2147483647 : Int32)).toUInt32 >>> ((p2 &&& (31 : Int32)) &&& 31).toUInt32).toInt32))]))
  refine go (fun _ k => XS.istore X0.here hx rfl (hb hby at_9) rfl (l' := #[.val (.int p1), .val (.int p2), .val (.int p3), .val (.int p4), .val (.int (((p1 &&& (2147483647 : Int32)).toUInt32 >>> ((p2 &&& (31 : Int32)) &&& 31).toUInt32).toInt32)), .unset, .unset, .unset, .unset, .unset]) rfl k) ?_
  show Go p e below _ (s₁.setTop (mkF m 11 #[.val (.int p1), .val (.int p2), .val (.int p3), .val (.int p4), .val (.int (((p1 &&& (2147483647 : Int32)).toUInt32 >>> ((p2 &&& (31 : Int32)) &&& 31).toUInt32).toInt32)), .unset, .unset, .unset, .unset, .unset] []))
  refine go (fun _ k => XS.iloadN X0.here hx rfl (hb hby at_11) rfl  k) ?_
  show Go p e below _ (s₁.setTop (mkF m 12 #[.val (.int p1), .val (.int p2), .val (.int p3), .val (.int p4), .val (.int (((p1 &&& (2147483647 : Int32)).toUInt32 >>> ((p2 &&& (31 : Int32)) &&& 31).toUInt32).toInt32)), .unset, .unset, .unset, .unset, .unset] [(.int p3)]))
  refine go (fun _ k => XS.iconst X0.here hx rfl (hb hby at_12) k) ?_
  show Go p e below _ (s₁.setTop (mkF m 13 #[.val (.int p1), .val (.int p2), .val (.int p3), .val (.int p4), .val (.int (((p1 &&& (2147483647 : Int32)).toUInt32 >>> ((p2 &&& (31 : Int32)) &&& 31).toUInt32).toInt32)), .unset, .unset, .unset, .unset, .unset] [(.int (3 : Int32)), (.int p3)]))
  refine go (fun _ k => XS.iand X0.here hx rfl (hb hby at_13) rfl k) ?_
  show Go p e below _ (s₁.setTop (mkF m 14 #[.val (.int p1), .val (.int p2), .val (.int p3), .val (.int p4), .val (.int (((p1 &&& (2147483647 : Int32)).toUInt32 >>> ((p2 &&& (31 : Int32)) &&& 31).toUInt32).toInt32)), .unset, .unset, .unset, .unset, .unset] [(.int (p3 &&& (3 : Int32)))]))
  refine go (fun _ k => XS.istore X0.here hx rfl (hb hby at_14) rfl (l' := #[.val (.int p1), .val (.int p2), .val (.int p3), .val (.int p4), .val (.int (((p1 &&& (2147483647 : Int32)).toUInt32 >>> ((p2 &&& (31 : Int32)) &&& 31).toUInt32).toInt32)), .val (.int (p3 &&& (3 : Int32))), .unset, .unset, .unset, .unset]) rfl k) ?_
  show Go p e below _ (s₁.setTop (mkF m 16 #[.val (.int p1), .val (.int p2), .val (.int p3), .val (.int p4), .val (.int (((p1 &&& (2147483647 : Int32)).toUInt32 >>> ((p2 &&& (31 : Int32)) &&& 31).toUInt32).toInt32)), .val (.int (p3 &&& (3 : Int32))), .unset, .unset, .unset, .unset] []))
  refine go (fun _ k => XS.iloadN X0.here hx rfl (hb hby at_16) rfl  k) ?_
  show Go p e below _ (s₁.setTop (mkF m 17 #[.val (.int p1), .val (.int p2), .val (.int p3), .val (.int p4), .val (.int (((p1 &&& (2147483647 : Int32)).toUInt32 >>> ((p2 &&& (31 : Int32)) &&& 31).toUInt32).toInt32)), .val (.int (p3 &&& (3 : Int32))), .unset, .unset, .unset, .unset] [(.int p4)]))
  refine go (fun _ k => XS.i2b X0.here hx rfl (hb hby at_17) rfl k) ?_
  show Go p e below _ (s₁.setTop (mkF m 18 #[.val (.int p1), .val (.int p2), .val (.int p3), .val (.int p4), .val (.int (((p1 &&& (2147483647 : Int32)).toUInt32 >>> ((p2 &&& (31 : Int32)) &&& 31).toUInt32).toInt32)), .val (.int (p3 &&& (3 : Int32))), .unset, .unset, .unset, .unset] [(.int (p4.toInt8.toInt32))]))
  refine go (fun _ k => XS.istore X0.here hx rfl (hb hby at_18) rfl (l' := #[.val (.int p1), .val (.int p2), .val (.int p3), .val (.int p4), .val (.int (((p1 &&& (2147483647 : Int32)).toUInt32 >>> ((p2 &&& (31 : Int32)) &&& 31).toUInt32).toInt32)), .val (.int (p3 &&& (3 : Int32))), .val (.int (p4.toInt8.toInt32)), .unset, .unset, .unset]) rfl k) ?_
  show Go p e below _ (s₁.setTop (mkF m 20 #[.val (.int p1), .val (.int p2), .val (.int p3), .val (.int p4), .val (.int (((p1 &&& (2147483647 : Int32)).toUInt32 >>> ((p2 &&& (31 : Int32)) &&& 31).toUInt32).toInt32)), .val (.int (p3 &&& (3 : Int32))), .val (.int (p4.toInt8.toInt32)), .unset, .unset, .unset] []))
  refine go (fun _ k => XS.bipush X0.here hx rfl (hb hby at_20) k) ?_
  show Go p e below _ (s₁.setTop (mkF m 22 #[.val (.int p1), .val (.int p2), .val (.int p3), .val (.int p4), .val (.int (((p1 &&& (2147483647 : Int32)).toUInt32 >>> ((p2 &&& (31 : Int32)) &&& 31).toUInt32).toInt32)), .val (.int (p3 &&& (3 : Int32))), .val (.int (p4.toInt8.toInt32)), .unset, .unset, .unset] [(.int (10 : Int32))]))
  obtain ⟨T1, h1, k1, X1, e1, E1, A1, st1⟩ := newP X0 hx hZ (hw _ (List.mem_of_getElem? (i := 1) rfl)) e0 (g := (mkF m 22 #[.val (.int p1), .val (.int p2), .val (.int p3), .val (.int p4), .val (.int (((p1 &&& (2147483647 : Int32)).toUInt32 >>> ((p2 &&& (31 : Int32)) &&& 31).toUInt32).toInt32)), .val (.int (p3 &&& (3 : Int32))), .val (.int (p4.toInt8.toInt32)), .unset, .unset, .unset] [(.int (10 : Int32))])) rfl (hb hby at_22) rfl (by decide) (cap := 10) (by decide) (by decide) (by decide) (by decide)
  obtain ⟨b1, g1⟩ : ∃ z, z = h0.size := ⟨_, rfl⟩
  rw [← g1] at A1 st1
  have sz_b1 : h0.size ≤ b1 := Nat.le_trans (Keep.refl h0 []).1 (Nat.le_of_eq g1.symm)
  have g_b1 : n0 ≤ b1 := Nat.le_trans Z0 sz_b1
  have V_b1 : Arv Z h1 b1 k1 .byte (10 : Int32) [(.int (0 : Int32)), (.int (0 : Int32)), (.int (0 : Int32)), (.int (0 : Int32)), (.int (0 : Int32)), (.int (0 : Int32)), (.int (0 : Int32)), (.int (0 : Int32)), (.int (0 : Int32)), (.int (0 : Int32))] (.int (0 : Int32)) := (Arv.new A1 (by decide)).pad (pad_rep [] (.int (0 : Int32)) 10)
  refine go st1 ?_
  show Go p e below _ (T1.setTop (mkF m 24 #[.val (.int p1), .val (.int p2), .val (.int p3), .val (.int p4), .val (.int (((p1 &&& (2147483647 : Int32)).toUInt32 >>> ((p2 &&& (31 : Int32)) &&& 31).toUInt32).toInt32)), .val (.int (p3 &&& (3 : Int32))), .val (.int (p4.toInt8.toInt32)), .unset, .unset, .unset] [(.ref b1)]))
  refine go (fun _ k => XS.astore X1.here hx rfl (hb hby at_24) rfl rfl (l' := #[.val (.int p1), .val (.int p2), .val (.int p3), .val (.int p4), .val (.int (((p1 &&& (2147483647 : Int32)).toUInt32 >>> ((p2 &&& (31 : Int32)) &&& 31).toUInt32).toInt32)), .val (.int (p3 &&& (3 : Int32))), .val (.int (p4.toInt8.toInt32)), .val (.ref b1), .unset, .unset]) rfl k) ?_
  show Go p e below _ (T1.setTop (mkF m 26 #[.val (.int p1), .val (.int p2), .val (.int p3), .val (.int p4), .val (.int (((p1 &&& (2147483647 : Int32)).toUInt32 >>> ((p2 &&& (31 : Int32)) &&& 31).toUInt32).toInt32)), .val (.int (p3 &&& (3 : Int32))), .val (.int (p4.toInt8.toInt32)), .val (.ref b1), .unset, .unset] []))
  refine go (fun _ k => XS.aload X1.here hx rfl (hb hby at_26) rfl rfl  k) ?_
  show Go p e below _ (T1.setTop (mkF m 28 #[.val (.int p1), .val (.int p2), .val (.int p3), .val (.int p4), .val (.int (((p1 &&& (2147483647 : Int32)).toUInt32 >>> ((p2 &&& (31 : Int32)) &&& 31).toUInt32).toInt32)), .val (.int (p3 &&& (3 : Int32))), .val (.int (p4.toInt8.toInt32)), .val (.ref b1), .unset, .unset] [(.ref b1)]))
  refine go (fun _ k => XS.iconst X1.here hx rfl (hb hby at_28) k) ?_
  show Go p e below _ (T1.setTop (mkF m 29 #[.val (.int p1), .val (.int p2), .val (.int p3), .val (.int p4), .val (.int (((p1 &&& (2147483647 : Int32)).toUInt32 >>> ((p2 &&& (31 : Int32)) &&& 31).toUInt32).toInt32)), .val (.int (p3 &&& (3 : Int32))), .val (.int (p4.toInt8.toInt32)), .val (.ref b1), .unset, .unset] [(.int (0 : Int32)), (.ref b1)]))
  refine go (fun _ k => XS.iload X1.here hx rfl (hb hby at_29) rfl  k) ?_
  show Go p e below _ (T1.setTop (mkF m 31 #[.val (.int p1), .val (.int p2), .val (.int p3), .val (.int p4), .val (.int (((p1 &&& (2147483647 : Int32)).toUInt32 >>> ((p2 &&& (31 : Int32)) &&& 31).toUInt32).toInt32)), .val (.int (p3 &&& (3 : Int32))), .val (.int (p4.toInt8.toInt32)), .val (.ref b1), .unset, .unset] [(.int (p4.toInt8.toInt32)), (.int (0 : Int32)), (.ref b1)]))
  obtain ⟨cl2, Ar2, q2, S2, M2, H2, G2⟩ := V_b1
  have hin2 : ¬ ((0 : Int32) < 0 ∨ cl2.slots.size ≤ ((0 : Int32)).toNatClampNeg) := inb_of S2 ⟨by decide, by decide⟩
  obtain ⟨T2, h2, X2, e2, W2, st2⟩ := stB X1 hx hZ e1 Ar2 (j := (0 : Int32)) hin2 (g := (mkF m 31 #[.val (.int p1), .val (.int p2), .val (.int p3), .val (.int p4), .val (.int (((p1 &&& (2147483647 : Int32)).toUInt32 >>> ((p2 &&& (31 : Int32)) &&& 31).toUInt32).toInt32)), .val (.int (p3 &&& (3 : Int32))), .val (.int (p4.toInt8.toInt32)), .val (.ref b1), .unset, .unset] [(.int (p4.toInt8.toInt32)), (.int (0 : Int32)), (.ref b1)])) rfl rfl (hb hby at_31)
  have V2 := Arv.set Ar2 q2 S2 M2 H2 G2 (fits_nar_byte _) W2 0 rfl (Nat.le_of_ble_eq_true rfl)
  have V_b1_2 : Arv Z h2 b1 k1 .byte (10 : Int32) ([(.int (nar .byte (p4.toInt8.toInt32))), (.int (0 : Int32)), (.int (0 : Int32)), (.int (0 : Int32)), (.int (0 : Int32)), (.int (0 : Int32)), (.int (0 : Int32)), (.int (0 : Int32)), (.int (0 : Int32)), (.int (0 : Int32))]) (.int (0 : Int32)) := V2
  have N2 := Fr.snoc X2 N0 g_b1
  refine go st2 ?_
  show Go p e below _ (T2.setTop (mkF m 32 #[.val (.int p1), .val (.int p2), .val (.int p3), .val (.int p4), .val (.int (((p1 &&& (2147483647 : Int32)).toUInt32 >>> ((p2 &&& (31 : Int32)) &&& 31).toUInt32).toInt32)), .val (.int (p3 &&& (3 : Int32))), .val (.int (p4.toInt8.toInt32)), .val (.ref b1), .unset, .unset] []))
  refine go (fun _ k => XS.aload X2.here hx rfl (hb hby at_32) rfl rfl  k) ?_
  show Go p e below _ (T2.setTop (mkF m 34 #[.val (.int p1), .val (.int p2), .val (.int p3), .val (.int p4), .val (.int (((p1 &&& (2147483647 : Int32)).toUInt32 >>> ((p2 &&& (31 : Int32)) &&& 31).toUInt32).toInt32)), .val (.int (p3 &&& (3 : Int32))), .val (.int (p4.toInt8.toInt32)), .val (.ref b1), .unset, .unset] [(.ref b1)]))
  refine go (fun _ k => XS.iconst X2.here hx rfl (hb hby at_34) k) ?_
  show Go p e below _ (T2.setTop (mkF m 35 #[.val (.int p1), .val (.int p2), .val (.int p3), .val (.int p4), .val (.int (((p1 &&& (2147483647 : Int32)).toUInt32 >>> ((p2 &&& (31 : Int32)) &&& 31).toUInt32).toInt32)), .val (.int (p3 &&& (3 : Int32))), .val (.int (p4.toInt8.toInt32)), .val (.ref b1), .unset, .unset] [(.int (1 : Int32)), (.ref b1)]))
  refine go (fun _ k => XS.iload X2.here hx rfl (hb hby at_35) rfl  k) ?_
  show Go p e below _ (T2.setTop (mkF m 37 #[.val (.int p1), .val (.int p2), .val (.int p3), .val (.int p4), .val (.int (((p1 &&& (2147483647 : Int32)).toUInt32 >>> ((p2 &&& (31 : Int32)) &&& 31).toUInt32).toInt32)), .val (.int (p3 &&& (3 : Int32))), .val (.int (p4.toInt8.toInt32)), .val (.ref b1), .unset, .unset] [(.int (p4.toInt8.toInt32)), (.int (1 : Int32)), (.ref b1)]))
  obtain ⟨cl3, Ar3, q3, S3, M3, H3, G3⟩ := V_b1_2
  have hin3 : ¬ ((1 : Int32) < 0 ∨ cl3.slots.size ≤ ((1 : Int32)).toNatClampNeg) := inb_of S3 ⟨by decide, by decide⟩
  obtain ⟨T3, h3, X3, e3, W3, st3⟩ := stB X2 hx hZ e2 Ar3 (j := (1 : Int32)) hin3 (g := (mkF m 37 #[.val (.int p1), .val (.int p2), .val (.int p3), .val (.int p4), .val (.int (((p1 &&& (2147483647 : Int32)).toUInt32 >>> ((p2 &&& (31 : Int32)) &&& 31).toUInt32).toInt32)), .val (.int (p3 &&& (3 : Int32))), .val (.int (p4.toInt8.toInt32)), .val (.ref b1), .unset, .unset] [(.int (p4.toInt8.toInt32)), (.int (1 : Int32)), (.ref b1)])) rfl rfl (hb hby at_37)
  have V3 := Arv.set Ar3 q3 S3 M3 H3 G3 (fits_nar_byte _) W3 1 rfl (Nat.le_of_ble_eq_true rfl)
  have V_b1_3 : Arv Z h3 b1 k1 .byte (10 : Int32) ([(.int (nar .byte (p4.toInt8.toInt32))), (.int (nar .byte (p4.toInt8.toInt32))), (.int (0 : Int32)), (.int (0 : Int32)), (.int (0 : Int32)), (.int (0 : Int32)), (.int (0 : Int32)), (.int (0 : Int32)), (.int (0 : Int32)), (.int (0 : Int32))]) (.int (0 : Int32)) := V3
  have N3 := Fr.snoc X3 N2 g_b1
  refine go st3 ?_
  show Go p e below _ (T3.setTop (mkF m 38 #[.val (.int p1), .val (.int p2), .val (.int p3), .val (.int p4), .val (.int (((p1 &&& (2147483647 : Int32)).toUInt32 >>> ((p2 &&& (31 : Int32)) &&& 31).toUInt32).toInt32)), .val (.int (p3 &&& (3 : Int32))), .val (.int (p4.toInt8.toInt32)), .val (.ref b1), .unset, .unset] []))
  refine go (fun _ k => XS.aload X3.here hx rfl (hb hby at_38) rfl rfl  k) ?_
  show Go p e below _ (T3.setTop (mkF m 40 #[.val (.int p1), .val (.int p2), .val (.int p3), .val (.int p4), .val (.int (((p1 &&& (2147483647 : Int32)).toUInt32 >>> ((p2 &&& (31 : Int32)) &&& 31).toUInt32).toInt32)), .val (.int (p3 &&& (3 : Int32))), .val (.int (p4.toInt8.toInt32)), .val (.ref b1), .unset, .unset] [(.ref b1)]))
  refine go (fun _ k => XS.iconst X3.here hx rfl (hb hby at_40) k) ?_
  show Go p e below _ (T3.setTop (mkF m 41 #[.val (.int p1), .val (.int p2), .val (.int p3), .val (.int p4), .val (.int (((p1 &&& (2147483647 : Int32)).toUInt32 >>> ((p2 &&& (31 : Int32)) &&& 31).toUInt32).toInt32)), .val (.int (p3 &&& (3 : Int32))), .val (.int (p4.toInt8.toInt32)), .val (.ref b1), .unset, .unset] [(.int (2 : Int32)), (.ref b1)]))
  refine go (fun _ k => XS.iload X3.here hx rfl (hb hby at_41) rfl  k) ?_
  show Go p e below _ (T3.setTop (mkF m 43 #[.val (.int p1), .val (.int p2), .val (.int p3), .val (.int p4), .val (.int (((p1 &&& (2147483647 : Int32)).toUInt32 >>> ((p2 &&& (31 : Int32)) &&& 31).toUInt32).toInt32)), .val (.int (p3 &&& (3 : Int32))), .val (.int (p4.toInt8.toInt32)), .val (.ref b1), .unset, .unset] [(.int (p4.toInt8.toInt32)), (.int (2 : Int32)), (.ref b1)]))
  obtain ⟨cl4, Ar4, q4, S4, M4, H4, G4⟩ := V_b1_3
  have hin4 : ¬ ((2 : Int32) < 0 ∨ cl4.slots.size ≤ ((2 : Int32)).toNatClampNeg) := inb_of S4 ⟨by decide, by decide⟩
  obtain ⟨T4, h4, X4, e4, W4, st4⟩ := stB X3 hx hZ e3 Ar4 (j := (2 : Int32)) hin4 (g := (mkF m 43 #[.val (.int p1), .val (.int p2), .val (.int p3), .val (.int p4), .val (.int (((p1 &&& (2147483647 : Int32)).toUInt32 >>> ((p2 &&& (31 : Int32)) &&& 31).toUInt32).toInt32)), .val (.int (p3 &&& (3 : Int32))), .val (.int (p4.toInt8.toInt32)), .val (.ref b1), .unset, .unset] [(.int (p4.toInt8.toInt32)), (.int (2 : Int32)), (.ref b1)])) rfl rfl (hb hby at_43)
  have V4 := Arv.set Ar4 q4 S4 M4 H4 G4 (fits_nar_byte _) W4 2 rfl (Nat.le_of_ble_eq_true rfl)
  have V_b1_4 : Arv Z h4 b1 k1 .byte (10 : Int32) ([(.int (nar .byte (p4.toInt8.toInt32))), (.int (nar .byte (p4.toInt8.toInt32))), (.int (nar .byte (p4.toInt8.toInt32))), (.int (0 : Int32)), (.int (0 : Int32)), (.int (0 : Int32)), (.int (0 : Int32)), (.int (0 : Int32)), (.int (0 : Int32)), (.int (0 : Int32))]) (.int (0 : Int32)) := V4
  have N4 := Fr.snoc X4 N3 g_b1
  refine go st4 ?_
  show Go p e below _ (T4.setTop (mkF m 44 #[.val (.int p1), .val (.int p2), .val (.int p3), .val (.int p4), .val (.int (((p1 &&& (2147483647 : Int32)).toUInt32 >>> ((p2 &&& (31 : Int32)) &&& 31).toUInt32).toInt32)), .val (.int (p3 &&& (3 : Int32))), .val (.int (p4.toInt8.toInt32)), .val (.ref b1), .unset, .unset] []))
  refine go (fun _ k => XS.aload X4.here hx rfl (hb hby at_44) rfl rfl  k) ?_
  show Go p e below _ (T4.setTop (mkF m 46 #[.val (.int p1), .val (.int p2), .val (.int p3), .val (.int p4), .val (.int (((p1 &&& (2147483647 : Int32)).toUInt32 >>> ((p2 &&& (31 : Int32)) &&& 31).toUInt32).toInt32)), .val (.int (p3 &&& (3 : Int32))), .val (.int (p4.toInt8.toInt32)), .val (.ref b1), .unset, .unset] [(.ref b1)]))
  refine go (fun _ k => XS.iconst X4.here hx rfl (hb hby at_46) k) ?_
  show Go p e below _ (T4.setTop (mkF m 47 #[.val (.int p1), .val (.int p2), .val (.int p3), .val (.int p4), .val (.int (((p1 &&& (2147483647 : Int32)).toUInt32 >>> ((p2 &&& (31 : Int32)) &&& 31).toUInt32).toInt32)), .val (.int (p3 &&& (3 : Int32))), .val (.int (p4.toInt8.toInt32)), .val (.ref b1), .unset, .unset] [(.int (3 : Int32)), (.ref b1)]))
  refine go (fun _ k => XS.iload X4.here hx rfl (hb hby at_47) rfl  k) ?_
  show Go p e below _ (T4.setTop (mkF m 49 #[.val (.int p1), .val (.int p2), .val (.int p3), .val (.int p4), .val (.int (((p1 &&& (2147483647 : Int32)).toUInt32 >>> ((p2 &&& (31 : Int32)) &&& 31).toUInt32).toInt32)), .val (.int (p3 &&& (3 : Int32))), .val (.int (p4.toInt8.toInt32)), .val (.ref b1), .unset, .unset] [(.int (p4.toInt8.toInt32)), (.int (3 : Int32)), (.ref b1)]))
  obtain ⟨cl5, Ar5, q5, S5, M5, H5, G5⟩ := V_b1_4
  have hin5 : ¬ ((3 : Int32) < 0 ∨ cl5.slots.size ≤ ((3 : Int32)).toNatClampNeg) := inb_of S5 ⟨by decide, by decide⟩
  obtain ⟨T5, h5, X5, e5, W5, st5⟩ := stB X4 hx hZ e4 Ar5 (j := (3 : Int32)) hin5 (g := (mkF m 49 #[.val (.int p1), .val (.int p2), .val (.int p3), .val (.int p4), .val (.int (((p1 &&& (2147483647 : Int32)).toUInt32 >>> ((p2 &&& (31 : Int32)) &&& 31).toUInt32).toInt32)), .val (.int (p3 &&& (3 : Int32))), .val (.int (p4.toInt8.toInt32)), .val (.ref b1), .unset, .unset] [(.int (p4.toInt8.toInt32)), (.int (3 : Int32)), (.ref b1)])) rfl rfl (hb hby at_49)
  have V5 := Arv.set Ar5 q5 S5 M5 H5 G5 (fits_nar_byte _) W5 3 rfl (Nat.le_of_ble_eq_true rfl)
  have V_b1_5 : Arv Z h5 b1 k1 .byte (10 : Int32) ([(.int (nar .byte (p4.toInt8.toInt32))), (.int (nar .byte (p4.toInt8.toInt32))), (.int (nar .byte (p4.toInt8.toInt32))), (.int (nar .byte (p4.toInt8.toInt32))), (.int (0 : Int32)), (.int (0 : Int32)), (.int (0 : Int32)), (.int (0 : Int32)), (.int (0 : Int32)), (.int (0 : Int32))]) (.int (0 : Int32)) := V5
  have N5 := Fr.snoc X5 N4 g_b1
  refine go st5 ?_
  show Go p e below _ (T5.setTop (mkF m 50 #[.val (.int p1), .val (.int p2), .val (.int p3), .val (.int p4), .val (.int (((p1 &&& (2147483647 : Int32)).toUInt32 >>> ((p2 &&& (31 : Int32)) &&& 31).toUInt32).toInt32)), .val (.int (p3 &&& (3 : Int32))), .val (.int (p4.toInt8.toInt32)), .val (.ref b1), .unset, .unset] []))
  refine go (fun _ k => XS.aload X5.here hx rfl (hb hby at_50) rfl rfl  k) ?_
  show Go p e below _ (T5.setTop (mkF m 52 #[.val (.int p1), .val (.int p2), .val (.int p3), .val (.int p4), .val (.int (((p1 &&& (2147483647 : Int32)).toUInt32 >>> ((p2 &&& (31 : Int32)) &&& 31).toUInt32).toInt32)), .val (.int (p3 &&& (3 : Int32))), .val (.int (p4.toInt8.toInt32)), .val (.ref b1), .unset, .unset] [(.ref b1)]))
  refine go (fun _ k => XS.iconst X5.here hx rfl (hb hby at_52) k) ?_
  show Go p e below _ (T5.setTop (mkF m 53 #[.val (.int p1), .val (.int p2), .val (.int p3), .val (.int p4), .val (.int (((p1 &&& (2147483647 : Int32)).toUInt32 >>> ((p2 &&& (31 : Int32)) &&& 31).toUInt32).toInt32)), .val (.int (p3 &&& (3 : Int32))), .val (.int (p4.toInt8.toInt32)), .val (.ref b1), .unset, .unset] [(.int (4 : Int32)), (.ref b1)]))
  refine go (fun _ k => XS.iload X5.here hx rfl (hb hby at_53) rfl  k) ?_
  show Go p e below _ (T5.setTop (mkF m 55 #[.val (.int p1), .val (.int p2), .val (.int p3), .val (.int p4), .val (.int (((p1 &&& (2147483647 : Int32)).toUInt32 >>> ((p2 &&& (31 : Int32)) &&& 31).toUInt32).toInt32)), .val (.int (p3 &&& (3 : Int32))), .val (.int (p4.toInt8.toInt32)), .val (.ref b1), .unset, .unset] [(.int (p4.toInt8.toInt32)), (.int (4 : Int32)), (.ref b1)]))
  obtain ⟨cl6, Ar6, q6, S6, M6, H6, G6⟩ := V_b1_5
  have hin6 : ¬ ((4 : Int32) < 0 ∨ cl6.slots.size ≤ ((4 : Int32)).toNatClampNeg) := inb_of S6 ⟨by decide, by decide⟩
  obtain ⟨T6, h6, X6, e6, W6, st6⟩ := stB X5 hx hZ e5 Ar6 (j := (4 : Int32)) hin6 (g := (mkF m 55 #[.val (.int p1), .val (.int p2), .val (.int p3), .val (.int p4), .val (.int (((p1 &&& (2147483647 : Int32)).toUInt32 >>> ((p2 &&& (31 : Int32)) &&& 31).toUInt32).toInt32)), .val (.int (p3 &&& (3 : Int32))), .val (.int (p4.toInt8.toInt32)), .val (.ref b1), .unset, .unset] [(.int (p4.toInt8.toInt32)), (.int (4 : Int32)), (.ref b1)])) rfl rfl (hb hby at_55)
  have V6 := Arv.set Ar6 q6 S6 M6 H6 G6 (fits_nar_byte _) W6 4 rfl (Nat.le_of_ble_eq_true rfl)
  have V_b1_6 : Arv Z h6 b1 k1 .byte (10 : Int32) ([(.int (nar .byte (p4.toInt8.toInt32))), (.int (nar .byte (p4.toInt8.toInt32))), (.int (nar .byte (p4.toInt8.toInt32))), (.int (nar .byte (p4.toInt8.toInt32))), (.int (nar .byte (p4.toInt8.toInt32))), (.int (0 : Int32)), (.int (0 : Int32)), (.int (0 : Int32)), (.int (0 : Int32)), (.int (0 : Int32))]) (.int (0 : Int32)) := V6
  have N6 := Fr.snoc X6 N5 g_b1
  refine go st6 ?_
  show Go p e below _ (T6.setTop (mkF m 56 #[.val (.int p1), .val (.int p2), .val (.int p3), .val (.int p4), .val (.int (((p1 &&& (2147483647 : Int32)).toUInt32 >>> ((p2 &&& (31 : Int32)) &&& 31).toUInt32).toInt32)), .val (.int (p3 &&& (3 : Int32))), .val (.int (p4.toInt8.toInt32)), .val (.ref b1), .unset, .unset] []))
  refine go (fun _ k => XS.aload X6.here hx rfl (hb hby at_56) rfl rfl  k) ?_
  show Go p e below _ (T6.setTop (mkF m 58 #[.val (.int p1), .val (.int p2), .val (.int p3), .val (.int p4), .val (.int (((p1 &&& (2147483647 : Int32)).toUInt32 >>> ((p2 &&& (31 : Int32)) &&& 31).toUInt32).toInt32)), .val (.int (p3 &&& (3 : Int32))), .val (.int (p4.toInt8.toInt32)), .val (.ref b1), .unset, .unset] [(.ref b1)]))
  refine go (fun _ k => XS.iconst X6.here hx rfl (hb hby at_58) k) ?_
  show Go p e below _ (T6.setTop (mkF m 59 #[.val (.int p1), .val (.int p2), .val (.int p3), .val (.int p4), .val (.int (((p1 &&& (2147483647 : Int32)).toUInt32 >>> ((p2 &&& (31 : Int32)) &&& 31).toUInt32).toInt32)), .val (.int (p3 &&& (3 : Int32))), .val (.int (p4.toInt8.toInt32)), .val (.ref b1), .unset, .unset] [(.int (5 : Int32)), (.ref b1)]))
  refine go (fun _ k => XS.iload X6.here hx rfl (hb hby at_59) rfl  k) ?_
  show Go p e below _ (T6.setTop (mkF m 61 #[.val (.int p1), .val (.int p2), .val (.int p3), .val (.int p4), .val (.int (((p1 &&& (2147483647 : Int32)).toUInt32 >>> ((p2 &&& (31 : Int32)) &&& 31).toUInt32).toInt32)), .val (.int (p3 &&& (3 : Int32))), .val (.int (p4.toInt8.toInt32)), .val (.ref b1), .unset, .unset] [(.int (p4.toInt8.toInt32)), (.int (5 : Int32)), (.ref b1)]))
  obtain ⟨cl7, Ar7, q7, S7, M7, H7, G7⟩ := V_b1_6
  have hin7 : ¬ ((5 : Int32) < 0 ∨ cl7.slots.size ≤ ((5 : Int32)).toNatClampNeg) := inb_of S7 ⟨by decide, by decide⟩
  obtain ⟨T7, h7, X7, e7, W7, st7⟩ := stB X6 hx hZ e6 Ar7 (j := (5 : Int32)) hin7 (g := (mkF m 61 #[.val (.int p1), .val (.int p2), .val (.int p3), .val (.int p4), .val (.int (((p1 &&& (2147483647 : Int32)).toUInt32 >>> ((p2 &&& (31 : Int32)) &&& 31).toUInt32).toInt32)), .val (.int (p3 &&& (3 : Int32))), .val (.int (p4.toInt8.toInt32)), .val (.ref b1), .unset, .unset] [(.int (p4.toInt8.toInt32)), (.int (5 : Int32)), (.ref b1)])) rfl rfl (hb hby at_61)
  have V7 := Arv.set Ar7 q7 S7 M7 H7 G7 (fits_nar_byte _) W7 5 rfl (Nat.le_of_ble_eq_true rfl)
  have V_b1_7 : Arv Z h7 b1 k1 .byte (10 : Int32) ([(.int (nar .byte (p4.toInt8.toInt32))), (.int (nar .byte (p4.toInt8.toInt32))), (.int (nar .byte (p4.toInt8.toInt32))), (.int (nar .byte (p4.toInt8.toInt32))), (.int (nar .byte (p4.toInt8.toInt32))), (.int (nar .byte (p4.toInt8.toInt32))), (.int (0 : Int32)), (.int (0 : Int32)), (.int (0 : Int32)), (.int (0 : Int32))]) (.int (0 : Int32)) := V7
  have N7 := Fr.snoc X7 N6 g_b1
  refine go st7 ?_
  show Go p e below _ (T7.setTop (mkF m 62 #[.val (.int p1), .val (.int p2), .val (.int p3), .val (.int p4), .val (.int (((p1 &&& (2147483647 : Int32)).toUInt32 >>> ((p2 &&& (31 : Int32)) &&& 31).toUInt32).toInt32)), .val (.int (p3 &&& (3 : Int32))), .val (.int (p4.toInt8.toInt32)), .val (.ref b1), .unset, .unset] []))
  refine go (fun _ k => XS.aload X7.here hx rfl (hb hby at_62) rfl rfl  k) ?_
  show Go p e below _ (T7.setTop (mkF m 64 #[.val (.int p1), .val (.int p2), .val (.int p3), .val (.int p4), .val (.int (((p1 &&& (2147483647 : Int32)).toUInt32 >>> ((p2 &&& (31 : Int32)) &&& 31).toUInt32).toInt32)), .val (.int (p3 &&& (3 : Int32))), .val (.int (p4.toInt8.toInt32)), .val (.ref b1), .unset, .unset] [(.ref b1)]))
  refine go (fun _ k => XS.bipush X7.here hx rfl (hb hby at_64) k) ?_
  show Go p e below _ (T7.setTop (mkF m 66 #[.val (.int p1), .val (.int p2), .val (.int p3), .val (.int p4), .val (.int (((p1 &&& (2147483647 : Int32)).toUInt32 >>> ((p2 &&& (31 : Int32)) &&& 31).toUInt32).toInt32)), .val (.int (p3 &&& (3 : Int32))), .val (.int (p4.toInt8.toInt32)), .val (.ref b1), .unset, .unset] [(.int (6 : Int32)), (.ref b1)]))
  refine go (fun _ k => XS.iload X7.here hx rfl (hb hby at_66) rfl  k) ?_
  show Go p e below _ (T7.setTop (mkF m 68 #[.val (.int p1), .val (.int p2), .val (.int p3), .val (.int p4), .val (.int (((p1 &&& (2147483647 : Int32)).toUInt32 >>> ((p2 &&& (31 : Int32)) &&& 31).toUInt32).toInt32)), .val (.int (p3 &&& (3 : Int32))), .val (.int (p4.toInt8.toInt32)), .val (.ref b1), .unset, .unset] [(.int (p4.toInt8.toInt32)), (.int (6 : Int32)), (.ref b1)]))
  obtain ⟨cl8, Ar8, q8, S8, M8, H8, G8⟩ := V_b1_7
  have hin8 : ¬ ((6 : Int32) < 0 ∨ cl8.slots.size ≤ ((6 : Int32)).toNatClampNeg) := inb_of S8 ⟨by decide, by decide⟩
  obtain ⟨T8, h8, X8, e8, W8, st8⟩ := stB X7 hx hZ e7 Ar8 (j := (6 : Int32)) hin8 (g := (mkF m 68 #[.val (.int p1), .val (.int p2), .val (.int p3), .val (.int p4), .val (.int (((p1 &&& (2147483647 : Int32)).toUInt32 >>> ((p2 &&& (31 : Int32)) &&& 31).toUInt32).toInt32)), .val (.int (p3 &&& (3 : Int32))), .val (.int (p4.toInt8.toInt32)), .val (.ref b1), .unset, .unset] [(.int (p4.toInt8.toInt32)), (.int (6 : Int32)), (.ref b1)])) rfl rfl (hb hby at_68)
  have V8 := Arv.set Ar8 q8 S8 M8 H8 G8 (fits_nar_byte _) W8 6 rfl (Nat.le_of_ble_eq_true rfl)
  have V_b1_8 : Arv Z h8 b1 k1 .byte (10 : Int32) ([(.int (nar .byte (p4.toInt8.toInt32))), (.int (nar .byte (p4.toInt8.toInt32))), (.int (nar .byte (p4.toInt8.toInt32))), (.int (nar .byte (p4.toInt8.toInt32))), (.int (nar .byte (p4.toInt8.toInt32))), (.int (nar .byte (p4.toInt8.toInt32))), (.int (nar .byte (p4.toInt8.toInt32))), (.int (0 : Int32)), (.int (0 : Int32)), (.int (0 : Int32))]) (.int (0 : Int32)) := V8
  have N8 := Fr.snoc X8 N7 g_b1
  refine go st8 ?_
  show Go p e below _ (T8.setTop (mkF m 69 #[.val (.int p1), .val (.int p2), .val (.int p3), .val (.int p4), .val (.int (((p1 &&& (2147483647 : Int32)).toUInt32 >>> ((p2 &&& (31 : Int32)) &&& 31).toUInt32).toInt32)), .val (.int (p3 &&& (3 : Int32))), .val (.int (p4.toInt8.toInt32)), .val (.ref b1), .unset, .unset] []))
  refine go (fun _ k => XS.aload X8.here hx rfl (hb hby at_69) rfl rfl  k) ?_
  show Go p e below _ (T8.setTop (mkF m 71 #[.val (.int p1), .val (.int p2), .val (.int p3), .val (.int p4), .val (.int (((p1 &&& (2147483647 : Int32)).toUInt32 >>> ((p2 &&& (31 : Int32)) &&& 31).toUInt32).toInt32)), .val (.int (p3 &&& (3 : Int32))), .val (.int (p4.toInt8.toInt32)), .val (.ref b1), .unset, .unset] [(.ref b1)]))
  refine go (fun _ k => XS.bipush X8.here hx rfl (hb hby at_71) k) ?_
  show Go p e below _ (T8.setTop (mkF m 73 #[.val (.int p1), .val (.int p2), .val (.int p3), .val (.int p4), .val (.int (((p1 &&& (2147483647 : Int32)).toUInt32 >>> ((p2 &&& (31 : Int32)) &&& 31).toUInt32).toInt32)), .val (.int (p3 &&& (3 : Int32))), .val (.int (p4.toInt8.toInt32)), .val (.ref b1), .unset, .unset] [(.int (7 : Int32)), (.ref b1)]))
  refine go (fun _ k => XS.iload X8.here hx rfl (hb hby at_73) rfl  k) ?_
  show Go p e below _ (T8.setTop (mkF m 75 #[.val (.int p1), .val (.int p2), .val (.int p3), .val (.int p4), .val (.int (((p1 &&& (2147483647 : Int32)).toUInt32 >>> ((p2 &&& (31 : Int32)) &&& 31).toUInt32).toInt32)), .val (.int (p3 &&& (3 : Int32))), .val (.int (p4.toInt8.toInt32)), .val (.ref b1), .unset, .unset] [(.int (p4.toInt8.toInt32)), (.int (7 : Int32)), (.ref b1)]))
  obtain ⟨cl9, Ar9, q9, S9, M9, H9, G9⟩ := V_b1_8
  have hin9 : ¬ ((7 : Int32) < 0 ∨ cl9.slots.size ≤ ((7 : Int32)).toNatClampNeg) := inb_of S9 ⟨by decide, by decide⟩
  obtain ⟨T9, h9, X9, e9, W9, st9⟩ := stB X8 hx hZ e8 Ar9 (j := (7 : Int32)) hin9 (g := (mkF m 75 #[.val (.int p1), .val (.int p2), .val (.int p3), .val (.int p4), .val (.int (((p1 &&& (2147483647 : Int32)).toUInt32 >>> ((p2 &&& (31 : Int32)) &&& 31).toUInt32).toInt32)), .val (.int (p3 &&& (3 : Int32))), .val (.int (p4.toInt8.toInt32)), .val (.ref b1), .unset, .unset] [(.int (p4.toInt8.toInt32)), (.int (7 : Int32)), (.ref b1)])) rfl rfl (hb hby at_75)
  have V9 := Arv.set Ar9 q9 S9 M9 H9 G9 (fits_nar_byte _) W9 7 rfl (Nat.le_of_ble_eq_true rfl)
  have V_b1_9 : Arv Z h9 b1 k1 .byte (10 : Int32) ([(.int (nar .byte (p4.toInt8.toInt32))), (.int (nar .byte (p4.toInt8.toInt32))), (.int (nar .byte (p4.toInt8.toInt32))), (.int (nar .byte (p4.toInt8.toInt32))), (.int (nar .byte (p4.toInt8.toInt32))), (.int (nar .byte (p4.toInt8.toInt32))), (.int (nar .byte (p4.toInt8.toInt32))), (.int (nar .byte (p4.toInt8.toInt32))), (.int (0 : Int32)), (.int (0 : Int32))]) (.int (0 : Int32)) := V9
  have N9 := Fr.snoc X9 N8 g_b1
  refine go st9 ?_
  show Go p e below _ (T9.setTop (mkF m 76 #[.val (.int p1), .val (.int p2), .val (.int p3), .val (.int p4), .val (.int (((p1 &&& (2147483647 : Int32)).toUInt32 >>> ((p2 &&& (31 : Int32)) &&& 31).toUInt32).toInt32)), .val (.int (p3 &&& (3 : Int32))), .val (.int (p4.toInt8.toInt32)), .val (.ref b1), .unset, .unset] []))
  refine go (fun _ k => XS.aload X9.here hx rfl (hb hby at_76) rfl rfl  k) ?_
  show Go p e below _ (T9.setTop (mkF m 78 #[.val (.int p1), .val (.int p2), .val (.int p3), .val (.int p4), .val (.int (((p1 &&& (2147483647 : Int32)).toUInt32 >>> ((p2 &&& (31 : Int32)) &&& 31).toUInt32).toInt32)), .val (.int (p3 &&& (3 : Int32))), .val (.int (p4.toInt8.toInt32)), .val (.ref b1), .unset, .unset] [(.ref b1)]))
  refine go (fun _ k => XS.bipush X9.here hx rfl (hb hby at_78) k) ?_
  show Go p e below _ (T9.setTop (mkF m 80 #[.val (.int p1), .val (.int p2), .val (.int p3), .val (.int p4), .val (.int (((p1 &&& (2147483647 : Int32)).toUInt32 >>> ((p2 &&& (31 : Int32)) &&& 31).toUInt32).toInt32)), .val (.int (p3 &&& (3 : Int32))), .val (.int (p4.toInt8.toInt32)), .val (.ref b1), .unset, .unset] [(.int (8 : Int32)), (.ref b1)]))
  refine go (fun _ k => XS.iload X9.here hx rfl (hb hby at_80) rfl  k) ?_
  show Go p e below _ (T9.setTop (mkF m 82 #[.val (.int p1), .val (.int p2), .val (.int p3), .val (.int p4), .val (.int (((p1 &&& (2147483647 : Int32)).toUInt32 >>> ((p2 &&& (31 : Int32)) &&& 31).toUInt32).toInt32)), .val (.int (p3 &&& (3 : Int32))), .val (.int (p4.toInt8.toInt32)), .val (.ref b1), .unset, .unset] [(.int (p4.toInt8.toInt32)), (.int (8 : Int32)), (.ref b1)]))
  obtain ⟨cl10, Ar10, q10, S10, M10, H10, G10⟩ := V_b1_9
  have hin10 : ¬ ((8 : Int32) < 0 ∨ cl10.slots.size ≤ ((8 : Int32)).toNatClampNeg) := inb_of S10 ⟨by decide, by decide⟩
  obtain ⟨T10, h10, X10, e10, W10, st10⟩ := stB X9 hx hZ e9 Ar10 (j := (8 : Int32)) hin10 (g := (mkF m 82 #[.val (.int p1), .val (.int p2), .val (.int p3), .val (.int p4), .val (.int (((p1 &&& (2147483647 : Int32)).toUInt32 >>> ((p2 &&& (31 : Int32)) &&& 31).toUInt32).toInt32)), .val (.int (p3 &&& (3 : Int32))), .val (.int (p4.toInt8.toInt32)), .val (.ref b1), .unset, .unset] [(.int (p4.toInt8.toInt32)), (.int (8 : Int32)), (.ref b1)])) rfl rfl (hb hby at_82)
  have V10 := Arv.set Ar10 q10 S10 M10 H10 G10 (fits_nar_byte _) W10 8 rfl (Nat.le_of_ble_eq_true rfl)
  have V_b1_10 : Arv Z h10 b1 k1 .byte (10 : Int32) ([(.int (nar .byte (p4.toInt8.toInt32))), (.int (nar .byte (p4.toInt8.toInt32))), (.int (nar .byte (p4.toInt8.toInt32))), (.int (nar .byte (p4.toInt8.toInt32))), (.int (nar .byte (p4.toInt8.toInt32))), (.int (nar .byte (p4.toInt8.toInt32))), (.int (nar .byte (p4.toInt8.toInt32))), (.int (nar .byte (p4.toInt8.toInt32))), (.int (nar .byte (p4.toInt8.toInt32))), (.int (0 : Int32))]) (.int (0 : Int32)) := V10
  have N10 := Fr.snoc X10 N9 g_b1
  refine go st10 ?_
  show Go p e below _ (T10.setTop (mkF m 83 #[.val (.int p1), .val (.int p2), .val (.int p3), .val (.int p4), .val (.int (((p1 &&& (2147483647 : Int32)).toUInt32 >>> ((p2 &&& (31 : Int32)) &&& 31).toUInt32).toInt32)), .val (.int (p3 &&& (3 : Int32))), .val (.int (p4.toInt8.toInt32)), .val (.ref b1), .unset, .unset] []))
  refine go (fun _ k => XS.aload X10.here hx rfl (hb hby at_83) rfl rfl  k) ?_
  show Go p e below _ (T10.setTop (mkF m 85 #[.val (.int p1), .val (.int p2), .val (.int p3), .val (.int p4), .val (.int (((p1 &&& (2147483647 : Int32)).toUInt32 >>> ((p2 &&& (31 : Int32)) &&& 31).toUInt32).toInt32)), .val (.int (p3 &&& (3 : Int32))), .val (.int (p4.toInt8.toInt32)), .val (.ref b1), .unset, .unset] [(.ref b1)]))
  refine go (fun _ k => XS.bipush X10.here hx rfl (hb hby at_85) k) ?_
  show Go p e below _ (T10.setTop (mkF m 87 #[.val (.int p1), .val (.int p2), .val (.int p3), .val (.int p4), .val (.int (((p1 &&& (2147483647 : Int32)).toUInt32 >>> ((p2 &&& (31 : Int32)) &&& 31).toUInt32).toInt32)), .val (.int (p3 &&& (3 : Int32))), .val (.int (p4.toInt8.toInt32)), .val (.ref b1), .unset, .unset] [(.int (9 : Int32)), (.ref b1)]))
  refine go (fun _ k => XS.iload X10.here hx rfl (hb hby at_87) rfl  k) ?_
  show Go p e below _ (T10.setTop (mkF m 89 #[.val (.int p1), .val (.int p2), .val (.int p3), .val (.int p4), .val (.int (((p1 &&& (2147483647 : Int32)).toUInt32 >>> ((p2 &&& (31 : Int32)) &&& 31).toUInt32).toInt32)), .val (.int (p3 &&& (3 : Int32))), .val (.int (p4.toInt8.toInt32)), .val (.ref b1), .unset, .unset] [(.int (p4.toInt8.toInt32)), (.int (9 : Int32)), (.ref b1)]))
  obtain ⟨cl11, Ar11, q11, S11, M11, H11, G11⟩ := V_b1_10
  have hin11 : ¬ ((9 : Int32) < 0 ∨ cl11.slots.size ≤ ((9 : Int32)).toNatClampNeg) := inb_of S11 ⟨by decide, by decide⟩
  obtain ⟨T11, h11, X11, e11, W11, st11⟩ := stB X10 hx hZ e10 Ar11 (j := (9 : Int32)) hin11 (g := (mkF m 89 #[.val (.int p1), .val (.int p2), .val (.int p3), .val (.int p4), .val (.int (((p1 &&& (2147483647 : Int32)).toUInt32 >>> ((p2 &&& (31 : Int32)) &&& 31).toUInt32).toInt32)), .val (.int (p3 &&& (3 : Int32))), .val (.int (p4.toInt8.toInt32)), .val (.ref b1), .unset, .unset] [(.int (p4.toInt8.toInt32)), (.int (9 : Int32)), (.ref b1)])) rfl rfl (hb hby at_89)
  have V11 := Arv.set Ar11 q11 S11 M11 H11 G11 (fits_nar_byte _) W11 9 rfl (Nat.le_of_ble_eq_true rfl)
  have V_b1_11 : Arv Z h11 b1 k1 .byte (10 : Int32) ([(.int (nar .byte (p4.toInt8.toInt32))), (.int (nar .byte (p4.toInt8.toInt32))), (.int (nar .byte (p4.toInt8.toInt32))), (.int (nar .byte (p4.toInt8.toInt32))), (.int (nar .byte (p4.toInt8.toInt32))), (.int (nar .byte (p4.toInt8.toInt32))), (.int (nar .byte (p4.toInt8.toInt32))), (.int (nar .byte (p4.toInt8.toInt32))), (.int (nar .byte (p4.toInt8.toInt32))), (.int (nar .byte (p4.toInt8.toInt32)))]) (.int (0 : Int32)) := V11
  have N11 := Fr.snoc X11 N10 g_b1
  refine go st11 ?_
  show Go p e below _ (T11.setTop (mkF m 90 #[.val (.int p1), .val (.int p2), .val (.int p3), .val (.int p4), .val (.int (((p1 &&& (2147483647 : Int32)).toUInt32 >>> ((p2 &&& (31 : Int32)) &&& 31).toUInt32).toInt32)), .val (.int (p3 &&& (3 : Int32))), .val (.int (p4.toInt8.toInt32)), .val (.ref b1), .unset, .unset] []))
  refine go (fun _ k => XS.aload X11.here hx rfl (hb hby at_90) rfl rfl  k) ?_
  show Go p e below _ (T11.setTop (mkF m 92 #[.val (.int p1), .val (.int p2), .val (.int p3), .val (.int p4), .val (.int (((p1 &&& (2147483647 : Int32)).toUInt32 >>> ((p2 &&& (31 : Int32)) &&& 31).toUInt32).toInt32)), .val (.int (p3 &&& (3 : Int32))), .val (.int (p4.toInt8.toInt32)), .val (.ref b1), .unset, .unset] [(.ref b1)]))
  refine go (fun _ k => XS.iload X11.here hx rfl (hb hby at_92) rfl  k) ?_
  show Go p e below _ (T11.setTop (mkF m 94 #[.val (.int p1), .val (.int p2), .val (.int p3), .val (.int p4), .val (.int (((p1 &&& (2147483647 : Int32)).toUInt32 >>> ((p2 &&& (31 : Int32)) &&& 31).toUInt32).toInt32)), .val (.int (p3 &&& (3 : Int32))), .val (.int (p4.toInt8.toInt32)), .val (.ref b1), .unset, .unset] [(.int (p3 &&& (3 : Int32))), (.ref b1)]))
  refine go (fun _ k => XS.iload X11.here hx rfl (hb hby at_94) rfl  k) ?_
  show Go p e below _ (T11.setTop (mkF m 96 #[.val (.int p1), .val (.int p2), .val (.int p3), .val (.int p4), .val (.int (((p1 &&& (2147483647 : Int32)).toUInt32 >>> ((p2 &&& (31 : Int32)) &&& 31).toUInt32).toInt32)), .val (.int (p3 &&& (3 : Int32))), .val (.int (p4.toInt8.toInt32)), .val (.ref b1), .unset, .unset] [(.int (((p1 &&& (2147483647 : Int32)).toUInt32 >>> ((p2 &&& (31 : Int32)) &&& 31).toUInt32).toInt32)), (.int (p3 &&& (3 : Int32))), (.ref b1)]))
  have K13 : Keep h0 h11 [] := ((((((((((((Keep.refl h0 []).ext E1).wr W2 (Or.inr sz_b1)).wr W3 (Or.inr sz_b1)).wr W4 (Or.inr sz_b1)).wr W5 (Or.inr sz_b1)).wr W6 (Or.inr sz_b1)).wr W7 (Or.inr sz_b1)).wr W8 (Or.inr sz_b1)).wr W9 (Or.inr sz_b1)).wr W10 (Or.inr sz_b1)).wr W11 (Or.inr sz_b1))
  obtain ⟨_, _, ⟨T12, L12, k12, n12⟩, -, X12, ⟨Lc12, hQ12, l12, y12, z12⟩, st12⟩ := Jvm.LawKit.callS X11 hx (y := (⟨"com/example/drienerlo/drienerlo/index/Varint", "write", "([BII)I"⟩ : MethodName)) hown (mvT hZ (hw _ (List.mem_of_getElem? (i := 2) rfl))) (mvT hZ (hw _ (List.mem_of_getElem? (i := 3) rfl))) (mvT hZ (hw _ (List.mem_of_getElem? (i := 4) rfl))) (mvT hZ (hw _ (List.mem_of_getElem? (i := 5) rfl))) (by decide) (backOf (W := 0) (rm1 l Z a0 hw [] b1 (p3 &&& (3 : Int32)) (((p1 &&& (2147483647 : Int32)).toUInt32 >>> ((p2 &&& (31 : Int32)) &&& 31).toUInt32).toInt32) k1 ([(nar .byte (p4.toInt8.toInt32)), (nar .byte (p4.toInt8.toInt32)), (nar .byte (p4.toInt8.toInt32)), (nar .byte (p4.toInt8.toInt32)), (nar .byte (p4.toInt8.toInt32)), (nar .byte (p4.toInt8.toInt32)), (nar .byte (p4.toInt8.toInt32)), (nar .byte (p4.toInt8.toInt32)), (nar .byte (p4.toInt8.toInt32)), (nar .byte (p4.toInt8.toInt32))]) h11 n0 (Nat.le_trans Z0 K13.1) V_b1_11 g_b1 (own_at p3 : 0 ≤ (p3 &&& (3 : Int32)).toInt ∧ (p3 &&& (3 : Int32)).toInt ≤ 3) (own_nn0 p1 p2 : 0 ≤ (((p1 &&& (2147483647 : Int32)).toUInt32 >>> ((p2 &&& (31 : Int32)) &&& 31).toUInt32).toInt32).toInt) (rfl : ([(nar .byte (p4.toInt8.toInt32)), (nar .byte (p4.toInt8.toInt32)), (nar .byte (p4.toInt8.toInt32)), (nar .byte (p4.toInt8.toInt32)), (nar .byte (p4.toInt8.toInt32)), (nar .byte (p4.toInt8.toInt32)), (nar .byte (p4.toInt8.toInt32)), (nar .byte (p4.toInt8.toInt32)), (nar .byte (p4.toInt8.toInt32)), (nar .byte (p4.toInt8.toInt32))]).length = 10)) hZ (hw _ (List.mem_of_getElem? (i := 5) rfl)) (hw _ (List.mem_of_getElem? (i := 4) rfl)) (by decide) (by decide)) (g := (mkF m 96 #[.val (.int p1), .val (.int p2), .val (.int p3), .val (.int p4), .val (.int (((p1 &&& (2147483647 : Int32)).toUInt32 >>> ((p2 &&& (31 : Int32)) &&& 31).toUInt32).toInt32)), .val (.int (p3 &&& (3 : Int32))), .val (.int (p4.toInt8.toInt32)), .val (.ref b1), .unset, .unset] [(.int (((p1 &&& (2147483647 : Int32)).toUInt32 >>> ((p2 &&& (31 : Int32)) &&& 31).toUInt32).toInt32)), (.int (p3 &&& (3 : Int32))), (.ref b1)])) rfl (by rw [hml]; rfl) (argsL := [(.ref b1), (.int (p3 &&& (3 : Int32))), (.int (((p1 &&& (2147483647 : Int32)).toUInt32 >>> ((p2 &&& (31 : Int32)) &&& 31).toUInt32).toInt32))]) (rest := []) (lenOf pd_0 rfl) rfl (by show 2 * 0 + _ ≤ _; exact Nat.le_of_eq rfl) (hb hby at_96) (fun _ _ => ⟨rfl, e11, (by decide : 1 + 0 ≤ _), (by decide : 10 + 0 ≤ _)⟩)
  dsimp only [Pt.U, Pt.locs, Pt.cells, Pt.slots] at X12 l12 y12 z12 st12 hQ12
  subst l12 y12 z12
  obtain ⟨rfl, N12q, r12_0, r12_1⟩ := hQ12
  have N12 := Fr.app N11 N12q
  skip
  refine go st12 ?_
  show Go p e below _ (T12.setTop (mkF m 99 #[.val (.int p1), .val (.int p2), .val (.int p3), .val (.int p4), .val (.int (((p1 &&& (2147483647 : Int32)).toUInt32 >>> ((p2 &&& (31 : Int32)) &&& 31).toUInt32).toInt32)), .val (.int (p3 &&& (3 : Int32))), .val (.int (p4.toInt8.toInt32)), .val (.ref b1), .unset, .unset] [(.int (own_r 4 (p3 &&& (3 : Int32)) (((p1 &&& (2147483647 : Int32)).toUInt32 >>> ((p2 &&& (31 : Int32)) &&& 31).toUInt32).toInt32)))]))
  refine go (fun _ k => XS.istore X12.here hx rfl (hb hby at_99) rfl (l' := #[.val (.int p1), .val (.int p2), .val (.int p3), .val (.int p4), .val (.int (((p1 &&& (2147483647 : Int32)).toUInt32 >>> ((p2 &&& (31 : Int32)) &&& 31).toUInt32).toInt32)), .val (.int (p3 &&& (3 : Int32))), .val (.int (p4.toInt8.toInt32)), .val (.ref b1), .val (.int (own_r 4 (p3 &&& (3 : Int32)) (((p1 &&& (2147483647 : Int32)).toUInt32 >>> ((p2 &&& (31 : Int32)) &&& 31).toUInt32).toInt32))), .unset]) rfl k) ?_
  show Go p e below _ (T12.setTop (mkF m 101 #[.val (.int p1), .val (.int p2), .val (.int p3), .val (.int p4), .val (.int (((p1 &&& (2147483647 : Int32)).toUInt32 >>> ((p2 &&& (31 : Int32)) &&& 31).toUInt32).toInt32)), .val (.int (p3 &&& (3 : Int32))), .val (.int (p4.toInt8.toInt32)), .val (.ref b1), .val (.int (own_r 4 (p3 &&& (3 : Int32)) (((p1 &&& (2147483647 : Int32)).toUInt32 >>> ((p2 &&& (31 : Int32)) &&& 31).toUInt32).toInt32))), .unset] []))
  refine go (fun _ k => XS.iload X12.here hx rfl (hb hby at_101) rfl  k) ?_
  show Go p e below _ (T12.setTop (mkF m 103 #[.val (.int p1), .val (.int p2), .val (.int p3), .val (.int p4), .val (.int (((p1 &&& (2147483647 : Int32)).toUInt32 >>> ((p2 &&& (31 : Int32)) &&& 31).toUInt32).toInt32)), .val (.int (p3 &&& (3 : Int32))), .val (.int (p4.toInt8.toInt32)), .val (.ref b1), .val (.int (own_r 4 (p3 &&& (3 : Int32)) (((p1 &&& (2147483647 : Int32)).toUInt32 >>> ((p2 &&& (31 : Int32)) &&& 31).toUInt32).toInt32))), .unset] [(.int (((p1 &&& (2147483647 : Int32)).toUInt32 >>> ((p2 &&& (31 : Int32)) &&& 31).toUInt32).toInt32))]))
  refine go (fun _ k => XS.sipush X12.here hx rfl (hb hby at_103) k) ?_
  show Go p e below _ (T12.setTop (mkF m 106 #[.val (.int p1), .val (.int p2), .val (.int p3), .val (.int p4), .val (.int (((p1 &&& (2147483647 : Int32)).toUInt32 >>> ((p2 &&& (31 : Int32)) &&& 31).toUInt32).toInt32)), .val (.int (p3 &&& (3 : Int32))), .val (.int (p4.toInt8.toInt32)), .val (.ref b1), .val (.int (own_r 4 (p3 &&& (3 : Int32)) (((p1 &&& (2147483647 : Int32)).toUInt32 >>> ((p2 &&& (31 : Int32)) &&& 31).toUInt32).toInt32))), .unset] [(.int (128 : Int32)), (.int (((p1 &&& (2147483647 : Int32)).toUInt32 >>> ((p2 &&& (31 : Int32)) &&& 31).toUInt32).toInt32))]))
  have J158_14 : ∀ (v158_5 : Int32), v158_5 = (if (((p1 &&& (2147483647 : Int32)).toUInt32 >>> ((p2 &&& (31 : Int32)) &&& 31).toUInt32).toInt32) < (128 : Int32) then (1 : Int32) else (if (((p1 &&& (2147483647 : Int32)).toUInt32 >>> ((p2 &&& (31 : Int32)) &&& 31).toUInt32).toInt32) < (16384 : Int32) then (2 : Int32) else (if (((p1 &&& (2147483647 : Int32)).toUInt32 >>> ((p2 &&& (31 : Int32)) &&& 31).toUInt32).toInt32) < (2097152 : Int32) then (3 : Int32) else (if (((p1 &&& (2147483647 : Int32)).toUInt32 >>> ((p2 &&& (31 : Int32)) &&& 31).toUInt32).toInt32) < (268435456 : Int32) then (4 : Int32) else (5 : Int32))))) → Go p e below (PP s below (Q0 Z p1 p2 p3 p4 h0 n0) room_1.cells room_1.slots) (T12.setTop (mkF m 158 #[.val (.int p1), .val (.int p2), .val (.int p3), .val (.int p4), .val (.int (((p1 &&& (2147483647 : Int32)).toUInt32 >>> ((p2 &&& (31 : Int32)) &&& 31).toUInt32).toInt32)), .val (.int (p3 &&& (3 : Int32))), .val (.int (p4.toInt8.toInt32)), .val (.ref b1), .val (.int (own_r 4 (p3 &&& (3 : Int32)) (((p1 &&& (2147483647 : Int32)).toUInt32 >>> ((p2 &&& (31 : Int32)) &&& 31).toUInt32).toInt32))), .val (.int v158_5)] [])) := by
    intro v158_5 hv158_5
    show Go p e below _ (T12.setTop (mkF m 158 #[.val (.int p1), .val (.int p2), .val (.int p3), .val (.int p4), .val (.int (((p1 &&& (2147483647 : Int32)).toUInt32 >>> ((p2 &&& (31 : Int32)) &&& 31).toUInt32).toInt32)), .val (.int (p3 &&& (3 : Int32))), .val (.int (p4.toInt8.toInt32)), .val (.ref b1), .val (.int (own_r 4 (p3 &&& (3 : Int32)) (((p1 &&& (2147483647 : Int32)).toUInt32 >>> ((p2 &&& (31 : Int32)) &&& 31).toUInt32).toInt32))), .val (.int v158_5)] []))
    refine go (fun _ k => XS.iload X12.here hx rfl (hb hby at_158) rfl  k) ?_
    show Go p e below _ (T12.setTop (mkF m 160 #[.val (.int p1), .val (.int p2), .val (.int p3), .val (.int p4), .val (.int (((p1 &&& (2147483647 : Int32)).toUInt32 >>> ((p2 &&& (31 : Int32)) &&& 31).toUInt32).toInt32)), .val (.int (p3 &&& (3 : Int32))), .val (.int (p4.toInt8.toInt32)), .val (.ref b1), .val (.int (own_r 4 (p3 &&& (3 : Int32)) (((p1 &&& (2147483647 : Int32)).toUInt32 >>> ((p2 &&& (31 : Int32)) &&& 31).toUInt32).toInt32))), .val (.int v158_5)] [(.int (own_r 4 (p3 &&& (3 : Int32)) (((p1 &&& (2147483647 : Int32)).toUInt32 >>> ((p2 &&& (31 : Int32)) &&& 31).toUInt32).toInt32)))]))
    refine go (fun _ k => XS.iload X12.here hx rfl (hb hby at_160) rfl  k) ?_
    show Go p e below _ (T12.setTop (mkF m 162 #[.val (.int p1), .val (.int p2), .val (.int p3), .val (.int p4), .val (.int (((p1 &&& (2147483647 : Int32)).toUInt32 >>> ((p2 &&& (31 : Int32)) &&& 31).toUInt32).toInt32)), .val (.int (p3 &&& (3 : Int32))), .val (.int (p4.toInt8.toInt32)), .val (.ref b1), .val (.int (own_r 4 (p3 &&& (3 : Int32)) (((p1 &&& (2147483647 : Int32)).toUInt32 >>> ((p2 &&& (31 : Int32)) &&& 31).toUInt32).toInt32))), .val (.int v158_5)] [(.int (p3 &&& (3 : Int32))), (.int (own_r 4 (p3 &&& (3 : Int32)) (((p1 &&& (2147483647 : Int32)).toUInt32 >>> ((p2 &&& (31 : Int32)) &&& 31).toUInt32).toInt32)))]))
    refine go (fun _ k => XS.iload X12.here hx rfl (hb hby at_162) rfl  k) ?_
    show Go p e below _ (T12.setTop (mkF m 164 #[.val (.int p1), .val (.int p2), .val (.int p3), .val (.int p4), .val (.int (((p1 &&& (2147483647 : Int32)).toUInt32 >>> ((p2 &&& (31 : Int32)) &&& 31).toUInt32).toInt32)), .val (.int (p3 &&& (3 : Int32))), .val (.int (p4.toInt8.toInt32)), .val (.ref b1), .val (.int (own_r 4 (p3 &&& (3 : Int32)) (((p1 &&& (2147483647 : Int32)).toUInt32 >>> ((p2 &&& (31 : Int32)) &&& 31).toUInt32).toInt32))), .val (.int v158_5)] [(.int v158_5), (.int (p3 &&& (3 : Int32))), (.int (own_r 4 (p3 &&& (3 : Int32)) (((p1 &&& (2147483647 : Int32)).toUInt32 >>> ((p2 &&& (31 : Int32)) &&& 31).toUInt32).toInt32)))]))
    refine go (fun _ k => XS.iadd X12.here hx rfl (hb hby at_164) rfl k) ?_
    show Go p e below _ (T12.setTop (mkF m 165 #[.val (.int p1), .val (.int p2), .val (.int p3), .val (.int p4), .val (.int (((p1 &&& (2147483647 : Int32)).toUInt32 >>> ((p2 &&& (31 : Int32)) &&& 31).toUInt32).toInt32)), .val (.int (p3 &&& (3 : Int32))), .val (.int (p4.toInt8.toInt32)), .val (.ref b1), .val (.int (own_r 4 (p3 &&& (3 : Int32)) (((p1 &&& (2147483647 : Int32)).toUInt32 >>> ((p2 &&& (31 : Int32)) &&& 31).toUInt32).toInt32))), .val (.int v158_5)] [(.int ((p3 &&& (3 : Int32)) + v158_5)), (.int (own_r 4 (p3 &&& (3 : Int32)) (((p1 &&& (2147483647 : Int32)).toUInt32 >>> ((p2 &&& (31 : Int32)) &&& 31).toUInt32).toInt32)))]))
    have hc165_6 : (own_r 4 (p3 &&& (3 : Int32)) (((p1 &&& (2147483647 : Int32)).toUInt32 >>> ((p2 &&& (31 : Int32)) &&& 31).toUInt32).toInt32)) = ((p3 &&& (3 : Int32)) + v158_5) := own_fin _ _ _ (own_nn0 p1 p2) hv158_5
    refine go (fun _ k => XS.icmpYes X12.here hx rfl (pc0 := 165) (pc' := 170) rfl (hb hby at_165) rfl (teq hc165_6).1 (by decide) (by decide) k) ?_
    show Go p e below _ (T12.setTop (mkF m 170 #[.val (.int p1), .val (.int p2), .val (.int p3), .val (.int p4), .val (.int (((p1 &&& (2147483647 : Int32)).toUInt32 >>> ((p2 &&& (31 : Int32)) &&& 31).toUInt32).toInt32)), .val (.int (p3 &&& (3 : Int32))), .val (.int (p4.toInt8.toInt32)), .val (.ref b1), .val (.int (own_r 4 (p3 &&& (3 : Int32)) (((p1 &&& (2147483647 : Int32)).toUInt32 >>> ((p2 &&& (31 : Int32)) &&& 31).toUInt32).toInt32))), .val (.int v158_5)] []))
    refine go (fun _ k => XS.aload X12.here hx rfl (hb hby at_170) rfl rfl  k) ?_
    show Go p e below _ (T12.setTop (mkF m 172 #[.val (.int p1), .val (.int p2), .val (.int p3), .val (.int p4), .val (.int (((p1 &&& (2147483647 : Int32)).toUInt32 >>> ((p2 &&& (31 : Int32)) &&& 31).toUInt32).toInt32)), .val (.int (p3 &&& (3 : Int32))), .val (.int (p4.toInt8.toInt32)), .val (.ref b1), .val (.int (own_r 4 (p3 &&& (3 : Int32)) (((p1 &&& (2147483647 : Int32)).toUInt32 >>> ((p2 &&& (31 : Int32)) &&& 31).toUInt32).toInt32))), .val (.int v158_5)] [(.ref b1)]))
    refine go (fun _ k => XS.iconst X12.here hx rfl (hb hby at_172) k) ?_
    show Go p e below _ (T12.setTop (mkF m 173 #[.val (.int p1), .val (.int p2), .val (.int p3), .val (.int p4), .val (.int (((p1 &&& (2147483647 : Int32)).toUInt32 >>> ((p2 &&& (31 : Int32)) &&& 31).toUInt32).toInt32)), .val (.int (p3 &&& (3 : Int32))), .val (.int (p4.toInt8.toInt32)), .val (.ref b1), .val (.int (own_r 4 (p3 &&& (3 : Int32)) (((p1 &&& (2147483647 : Int32)).toUInt32 >>> ((p2 &&& (31 : Int32)) &&& 31).toUInt32).toInt32))), .val (.int v158_5)] [(.int (0 : Int32)), (.ref b1)]))
    refine go (fun _ k => XS.iload X12.here hx rfl (hb hby at_173) rfl  k) ?_
    show Go p e below _ (T12.setTop (mkF m 175 #[.val (.int p1), .val (.int p2), .val (.int p3), .val (.int p4), .val (.int (((p1 &&& (2147483647 : Int32)).toUInt32 >>> ((p2 &&& (31 : Int32)) &&& 31).toUInt32).toInt32)), .val (.int (p3 &&& (3 : Int32))), .val (.int (p4.toInt8.toInt32)), .val (.ref b1), .val (.int (own_r 4 (p3 &&& (3 : Int32)) (((p1 &&& (2147483647 : Int32)).toUInt32 >>> ((p2 &&& (31 : Int32)) &&& 31).toUInt32).toInt32))), .val (.int v158_5)] [(.int (p3 &&& (3 : Int32))), (.int (0 : Int32)), (.ref b1)]))
    refine go (fun _ k => XS.iload X12.here hx rfl (hb hby at_175) rfl  k) ?_
    show Go p e below _ (T12.setTop (mkF m 177 #[.val (.int p1), .val (.int p2), .val (.int p3), .val (.int p4), .val (.int (((p1 &&& (2147483647 : Int32)).toUInt32 >>> ((p2 &&& (31 : Int32)) &&& 31).toUInt32).toInt32)), .val (.int (p3 &&& (3 : Int32))), .val (.int (p4.toInt8.toInt32)), .val (.ref b1), .val (.int (own_r 4 (p3 &&& (3 : Int32)) (((p1 &&& (2147483647 : Int32)).toUInt32 >>> ((p2 &&& (31 : Int32)) &&& 31).toUInt32).toInt32))), .val (.int v158_5)] [(.int v158_5), (.int (p3 &&& (3 : Int32))), (.int (0 : Int32)), (.ref b1)]))
    refine go (fun _ k => XS.iload X12.here hx rfl (hb hby at_177) rfl  k) ?_
    show Go p e below _ (T12.setTop (mkF m 179 #[.val (.int p1), .val (.int p2), .val (.int p3), .val (.int p4), .val (.int (((p1 &&& (2147483647 : Int32)).toUInt32 >>> ((p2 &&& (31 : Int32)) &&& 31).toUInt32).toInt32)), .val (.int (p3 &&& (3 : Int32))), .val (.int (p4.toInt8.toInt32)), .val (.ref b1), .val (.int (own_r 4 (p3 &&& (3 : Int32)) (((p1 &&& (2147483647 : Int32)).toUInt32 >>> ((p2 &&& (31 : Int32)) &&& 31).toUInt32).toInt32))), .val (.int v158_5)] [(.int (((p1 &&& (2147483647 : Int32)).toUInt32 >>> ((p2 &&& (31 : Int32)) &&& 31).toUInt32).toInt32)), (.int v158_5), (.int (p3 &&& (3 : Int32))), (.int (0 : Int32)), (.ref b1)]))
    refine go (fun _ k => XS.iload X12.here hx rfl (hb hby at_179) rfl  k) ?_
    show Go p e below _ (T12.setTop (mkF m 181 #[.val (.int p1), .val (.int p2), .val (.int p3), .val (.int p4), .val (.int (((p1 &&& (2147483647 : Int32)).toUInt32 >>> ((p2 &&& (31 : Int32)) &&& 31).toUInt32).toInt32)), .val (.int (p3 &&& (3 : Int32))), .val (.int (p4.toInt8.toInt32)), .val (.ref b1), .val (.int (own_r 4 (p3 &&& (3 : Int32)) (((p1 &&& (2147483647 : Int32)).toUInt32 >>> ((p2 &&& (31 : Int32)) &&& 31).toUInt32).toInt32))), .val (.int v158_5)] [(.int (p4.toInt8.toInt32)), (.int (((p1 &&& (2147483647 : Int32)).toUInt32 >>> ((p2 &&& (31 : Int32)) &&& 31).toUInt32).toInt32)), (.int v158_5), (.int (p3 &&& (3 : Int32))), (.int (0 : Int32)), (.ref b1)]))
    have K16 : Keep h0 T12.heap [] := (K13.trans r12_0 (allS (Or.inr sz_b1) all0))
    obtain ⟨_, _, ⟨T15, L15, k15, n15⟩, -, X15, ⟨Lc15, hQ15, l15, y15, z15⟩, st15⟩ := Jvm.LawKit.callS X12 hx (y := (⟨"com/example/drienerlo/drienerlo/index/VarintWritePinLaw", "ok", "([BIIIIB)Z"⟩ : MethodName)) hown (mvT hZ (hw _ (List.mem_of_getElem? (i := 6) rfl))) (mvT hZ (hw _ (List.mem_of_getElem? (i := 7) rfl))) (mvT hZ (hw _ (List.mem_of_getElem? (i := 8) rfl))) (mvT hZ (hw _ (List.mem_of_getElem? (i := 9) rfl))) (by decide) (backOf (W := 0) (rm2 l Z a0 hw [] b1 (0 : Int32) (p3 &&& (3 : Int32)) v158_5 (((p1 &&& (2147483647 : Int32)).toUInt32 >>> ((p2 &&& (31 : Int32)) &&& 31).toUInt32).toInt32) (p4.toInt8.toInt32) k1 (own_w 4 (p3 &&& (3 : Int32)) (((p1 &&& (2147483647 : Int32)).toUInt32 >>> ((p2 &&& (31 : Int32)) &&& 31).toUInt32).toInt32) [(nar .byte (p4.toInt8.toInt32)), (nar .byte (p4.toInt8.toInt32)), (nar .byte (p4.toInt8.toInt32)), (nar .byte (p4.toInt8.toInt32)), (nar .byte (p4.toInt8.toInt32)), (nar .byte (p4.toInt8.toInt32)), (nar .byte (p4.toInt8.toInt32)), (nar .byte (p4.toInt8.toInt32)), (nar .byte (p4.toInt8.toInt32)), (nar .byte (p4.toInt8.toInt32))]) T12.heap n0 (Nat.le_trans Z0 K16.1) r12_1 (⟨by decide, by decide⟩ : ¬ (0 : Int32) < 0 ∧ (0 : Int32) < 10)) hZ (hw _ (List.mem_of_getElem? (i := 9) rfl)) (hw _ (List.mem_of_getElem? (i := 8) rfl)) (by decide) (by decide)) (g := (mkF m 181 #[.val (.int p1), .val (.int p2), .val (.int p3), .val (.int p4), .val (.int (((p1 &&& (2147483647 : Int32)).toUInt32 >>> ((p2 &&& (31 : Int32)) &&& 31).toUInt32).toInt32)), .val (.int (p3 &&& (3 : Int32))), .val (.int (p4.toInt8.toInt32)), .val (.ref b1), .val (.int (own_r 4 (p3 &&& (3 : Int32)) (((p1 &&& (2147483647 : Int32)).toUInt32 >>> ((p2 &&& (31 : Int32)) &&& 31).toUInt32).toInt32))), .val (.int v158_5)] [(.int (p4.toInt8.toInt32)), (.int (((p1 &&& (2147483647 : Int32)).toUInt32 >>> ((p2 &&& (31 : Int32)) &&& 31).toUInt32).toInt32)), (.int v158_5), (.int (p3 &&& (3 : Int32))), (.int (0 : Int32)), (.ref b1)])) rfl (by rw [hml]; rfl) (argsL := [(.ref b1), (.int (0 : Int32)), (.int (p3 &&& (3 : Int32))), (.int v158_5), (.int (((p1 &&& (2147483647 : Int32)).toUInt32 >>> ((p2 &&& (31 : Int32)) &&& 31).toUInt32).toInt32)), (.int (p4.toInt8.toInt32))]) (rest := []) (lenOf pd_1 rfl) rfl (by show 2 * 0 + _ ≤ _; exact Nat.le_of_eq rfl) (hb hby at_181) (fun _ _ => ⟨rfl, rfl, (by decide : 1 + 0 ≤ _), (by decide : 10 + 0 ≤ _)⟩)
    dsimp only [Pt.U, Pt.locs, Pt.cells, Pt.slots] at X15 l15 y15 z15 st15 hQ15
    subst l15 y15 z15
    obtain ⟨rfl, N15q, e15⟩ := hQ15
    have N15 := Fr.app N12 N15q
    skip
    refine go st15 ?_
    show Go p e below _ (T15.setTop (mkF m 184 #[.val (.int p1), .val (.int p2), .val (.int p3), .val (.int p4), .val (.int (((p1 &&& (2147483647 : Int32)).toUInt32 >>> ((p2 &&& (31 : Int32)) &&& 31).toUInt32).toInt32)), .val (.int (p3 &&& (3 : Int32))), .val (.int (p4.toInt8.toInt32)), .val (.ref b1), .val (.int (own_r 4 (p3 &&& (3 : Int32)) (((p1 &&& (2147483647 : Int32)).toUInt32 >>> ((p2 &&& (31 : Int32)) &&& 31).toUInt32).toInt32))), .val (.int v158_5)] [(.int (bz ((own_w 4 (p3 &&& (3 : Int32)) (((p1 &&& (2147483647 : Int32)).toUInt32 >>> ((p2 &&& (31 : Int32)) &&& 31).toUInt32).toInt32) [(nar .byte (p4.toInt8.toInt32)), (nar .byte (p4.toInt8.toInt32)), (nar .byte (p4.toInt8.toInt32)), (nar .byte (p4.toInt8.toInt32)), (nar .byte (p4.toInt8.toInt32)), (nar .byte (p4.toInt8.toInt32)), (nar .byte (p4.toInt8.toInt32)), (nar .byte (p4.toInt8.toInt32)), (nar .byte (p4.toInt8.toInt32)), (nar .byte (p4.toInt8.toInt32))]).getD ((0 : Int32)).toNatClampNeg 0 = own_want (0 : Int32) (p3 &&& (3 : Int32)) v158_5 (((p1 &&& (2147483647 : Int32)).toUInt32 >>> ((p2 &&& (31 : Int32)) &&& 31).toUInt32).toInt32) (p4.toInt8.toInt32))))]))
    have hc184_7 : (own_w 4 (p3 &&& (3 : Int32)) (((p1 &&& (2147483647 : Int32)).toUInt32 >>> ((p2 &&& (31 : Int32)) &&& 31).toUInt32).toInt32) [(nar .byte (p4.toInt8.toInt32)), (nar .byte (p4.toInt8.toInt32)), (nar .byte (p4.toInt8.toInt32)), (nar .byte (p4.toInt8.toInt32)), (nar .byte (p4.toInt8.toInt32)), (nar .byte (p4.toInt8.toInt32)), (nar .byte (p4.toInt8.toInt32)), (nar .byte (p4.toInt8.toInt32)), (nar .byte (p4.toInt8.toInt32)), (nar .byte (p4.toInt8.toInt32))]).getD ((0 : Int32)).toNatClampNeg 0 = own_want (0 : Int32) (p3 &&& (3 : Int32)) v158_5 (((p1 &&& (2147483647 : Int32)).toUInt32 >>> ((p2 &&& (31 : Int32)) &&& 31).toUInt32).toInt32) (p4.toInt8.toInt32) := own_ok0 _ _ _ _ (own_nn0 p1 p2) (own_at4 p3) hv158_5
    refine go (fun _ k => XS.ifNo X15.here hx rfl (hb hby at_184) rfl ((if0 _ _).trans (feq (bz_ne hc184_7)).1) k) ?_
    show Go p e below _ (T15.setTop (mkF m 187 #[.val (.int p1), .val (.int p2), .val (.int p3), .val (.int p4), .val (.int (((p1 &&& (2147483647 : Int32)).toUInt32 >>> ((p2 &&& (31 : Int32)) &&& 31).toUInt32).toInt32)), .val (.int (p3 &&& (3 : Int32))), .val (.int (p4.toInt8.toInt32)), .val (.ref b1), .val (.int (own_r 4 (p3 &&& (3 : Int32)) (((p1 &&& (2147483647 : Int32)).toUInt32 >>> ((p2 &&& (31 : Int32)) &&& 31).toUInt32).toInt32))), .val (.int v158_5)] []))
    refine go (fun _ k => XS.aload X15.here hx rfl (hb hby at_187) rfl rfl  k) ?_
    show Go p e below _ (T15.setTop (mkF m 189 #[.val (.int p1), .val (.int p2), .val (.int p3), .val (.int p4), .val (.int (((p1 &&& (2147483647 : Int32)).toUInt32 >>> ((p2 &&& (31 : Int32)) &&& 31).toUInt32).toInt32)), .val (.int (p3 &&& (3 : Int32))), .val (.int (p4.toInt8.toInt32)), .val (.ref b1), .val (.int (own_r 4 (p3 &&& (3 : Int32)) (((p1 &&& (2147483647 : Int32)).toUInt32 >>> ((p2 &&& (31 : Int32)) &&& 31).toUInt32).toInt32))), .val (.int v158_5)] [(.ref b1)]))
    refine go (fun _ k => XS.iconst X15.here hx rfl (hb hby at_189) k) ?_
    show Go p e below _ (T15.setTop (mkF m 190 #[.val (.int p1), .val (.int p2), .val (.int p3), .val (.int p4), .val (.int (((p1 &&& (2147483647 : Int32)).toUInt32 >>> ((p2 &&& (31 : Int32)) &&& 31).toUInt32).toInt32)), .val (.int (p3 &&& (3 : Int32))), .val (.int (p4.toInt8.toInt32)), .val (.ref b1), .val (.int (own_r 4 (p3 &&& (3 : Int32)) (((p1 &&& (2147483647 : Int32)).toUInt32 >>> ((p2 &&& (31 : Int32)) &&& 31).toUInt32).toInt32))), .val (.int v158_5)] [(.int (1 : Int32)), (.ref b1)]))
    refine go (fun _ k => XS.iload X15.here hx rfl (hb hby at_190) rfl  k) ?_
    show Go p e below _ (T15.setTop (mkF m 192 #[.val (.int p1), .val (.int p2), .val (.int p3), .val (.int p4), .val (.int (((p1 &&& (2147483647 : Int32)).toUInt32 >>> ((p2 &&& (31 : Int32)) &&& 31).toUInt32).toInt32)), .val (.int (p3 &&& (3 : Int32))), .val (.int (p4.toInt8.toInt32)), .val (.ref b1), .val (.int (own_r 4 (p3 &&& (3 : Int32)) (((p1 &&& (2147483647 : Int32)).toUInt32 >>> ((p2 &&& (31 : Int32)) &&& 31).toUInt32).toInt32))), .val (.int v158_5)] [(.int (p3 &&& (3 : Int32))), (.int (1 : Int32)), (.ref b1)]))
    refine go (fun _ k => XS.iload X15.here hx rfl (hb hby at_192) rfl  k) ?_
    show Go p e below _ (T15.setTop (mkF m 194 #[.val (.int p1), .val (.int p2), .val (.int p3), .val (.int p4), .val (.int (((p1 &&& (2147483647 : Int32)).toUInt32 >>> ((p2 &&& (31 : Int32)) &&& 31).toUInt32).toInt32)), .val (.int (p3 &&& (3 : Int32))), .val (.int (p4.toInt8.toInt32)), .val (.ref b1), .val (.int (own_r 4 (p3 &&& (3 : Int32)) (((p1 &&& (2147483647 : Int32)).toUInt32 >>> ((p2 &&& (31 : Int32)) &&& 31).toUInt32).toInt32))), .val (.int v158_5)] [(.int v158_5), (.int (p3 &&& (3 : Int32))), (.int (1 : Int32)), (.ref b1)]))
    refine go (fun _ k => XS.iload X15.here hx rfl (hb hby at_194) rfl  k) ?_
    show Go p e below _ (T15.setTop (mkF m 196 #[.val (.int p1), .val (.int p2), .val (.int p3), .val (.int p4), .val (.int (((p1 &&& (2147483647 : Int32)).toUInt32 >>> ((p2 &&& (31 : Int32)) &&& 31).toUInt32).toInt32)), .val (.int (p3 &&& (3 : Int32))), .val (.int (p4.toInt8.toInt32)), .val (.ref b1), .val (.int (own_r 4 (p3 &&& (3 : Int32)) (((p1 &&& (2147483647 : Int32)).toUInt32 >>> ((p2 &&& (31 : Int32)) &&& 31).toUInt32).toInt32))), .val (.int v158_5)] [(.int (((p1 &&& (2147483647 : Int32)).toUInt32 >>> ((p2 &&& (31 : Int32)) &&& 31).toUInt32).toInt32)), (.int v158_5), (.int (p3 &&& (3 : Int32))), (.int (1 : Int32)), (.ref b1)]))
    refine go (fun _ k => XS.iload X15.here hx rfl (hb hby at_196) rfl  k) ?_
    show Go p e below _ (T15.setTop (mkF m 198 #[.val (.int p1), .val (.int p2), .val (.int p3), .val (.int p4), .val (.int (((p1 &&& (2147483647 : Int32)).toUInt32 >>> ((p2 &&& (31 : Int32)) &&& 31).toUInt32).toInt32)), .val (.int (p3 &&& (3 : Int32))), .val (.int (p4.toInt8.toInt32)), .val (.ref b1), .val (.int (own_r 4 (p3 &&& (3 : Int32)) (((p1 &&& (2147483647 : Int32)).toUInt32 >>> ((p2 &&& (31 : Int32)) &&& 31).toUInt32).toInt32))), .val (.int v158_5)] [(.int (p4.toInt8.toInt32)), (.int (((p1 &&& (2147483647 : Int32)).toUInt32 >>> ((p2 &&& (31 : Int32)) &&& 31).toUInt32).toInt32)), (.int v158_5), (.int (p3 &&& (3 : Int32))), (.int (1 : Int32)), (.ref b1)]))
    obtain ⟨_, _, ⟨T17, L17, k17, n17⟩, -, X17, ⟨Lc17, hQ17, l17, y17, z17⟩, st17⟩ := Jvm.LawKit.callS X15 hx (y := (⟨"com/example/drienerlo/drienerlo/index/VarintWritePinLaw", "ok", "([BIIIIB)Z"⟩ : MethodName)) hown (mvT hZ (hw _ (List.mem_of_getElem? (i := 6) rfl))) (mvT hZ (hw _ (List.mem_of_getElem? (i := 7) rfl))) (mvT hZ (hw _ (List.mem_of_getElem? (i := 8) rfl))) (mvT hZ (hw _ (List.mem_of_getElem? (i := 9) rfl))) (by decide) (backOf (W := 0) (rm2 l Z a0 hw [] b1 (1 : Int32) (p3 &&& (3 : Int32)) v158_5 (((p1 &&& (2147483647 : Int32)).toUInt32 >>> ((p2 &&& (31 : Int32)) &&& 31).toUInt32).toInt32) (p4.toInt8.toInt32) k1 (own_w 4 (p3 &&& (3 : Int32)) (((p1 &&& (2147483647 : Int32)).toUInt32 >>> ((p2 &&& (31 : Int32)) &&& 31).toUInt32).toInt32) [(nar .byte (p4.toInt8.toInt32)), (nar .byte (p4.toInt8.toInt32)), (nar .byte (p4.toInt8.toInt32)), (nar .byte (p4.toInt8.toInt32)), (nar .byte (p4.toInt8.toInt32)), (nar .byte (p4.toInt8.toInt32)), (nar .byte (p4.toInt8.toInt32)), (nar .byte (p4.toInt8.toInt32)), (nar .byte (p4.toInt8.toInt32)), (nar .byte (p4.toInt8.toInt32))]) T12.heap n0 (Nat.le_trans Z0 K16.1) r12_1 (⟨by decide, by decide⟩ : ¬ (1 : Int32) < 0 ∧ (1 : Int32) < 10)) hZ (hw _ (List.mem_of_getElem? (i := 9) rfl)) (hw _ (List.mem_of_getElem? (i := 8) rfl)) (by decide) (by decide)) (g := (mkF m 198 #[.val (.int p1), .val (.int p2), .val (.int p3), .val (.int p4), .val (.int (((p1 &&& (2147483647 : Int32)).toUInt32 >>> ((p2 &&& (31 : Int32)) &&& 31).toUInt32).toInt32)), .val (.int (p3 &&& (3 : Int32))), .val (.int (p4.toInt8.toInt32)), .val (.ref b1), .val (.int (own_r 4 (p3 &&& (3 : Int32)) (((p1 &&& (2147483647 : Int32)).toUInt32 >>> ((p2 &&& (31 : Int32)) &&& 31).toUInt32).toInt32))), .val (.int v158_5)] [(.int (p4.toInt8.toInt32)), (.int (((p1 &&& (2147483647 : Int32)).toUInt32 >>> ((p2 &&& (31 : Int32)) &&& 31).toUInt32).toInt32)), (.int v158_5), (.int (p3 &&& (3 : Int32))), (.int (1 : Int32)), (.ref b1)])) rfl (by rw [hml]; rfl) (argsL := [(.ref b1), (.int (1 : Int32)), (.int (p3 &&& (3 : Int32))), (.int v158_5), (.int (((p1 &&& (2147483647 : Int32)).toUInt32 >>> ((p2 &&& (31 : Int32)) &&& 31).toUInt32).toInt32)), (.int (p4.toInt8.toInt32))]) (rest := []) (lenOf pd_1 rfl) rfl (by show 2 * 0 + _ ≤ _; exact Nat.le_of_eq rfl) (hb hby at_198) (fun _ _ => ⟨rfl, e15, (by decide : 1 + 0 ≤ _), (by decide : 10 + 0 ≤ _)⟩)
    dsimp only [Pt.U, Pt.locs, Pt.cells, Pt.slots] at X17 l17 y17 z17 st17 hQ17
    subst l17 y17 z17
    obtain ⟨rfl, N17q, e17⟩ := hQ17
    have N17 := Fr.app N15 N17q
    skip
    refine go st17 ?_
    show Go p e below _ (T17.setTop (mkF m 201 #[.val (.int p1), .val (.int p2), .val (.int p3), .val (.int p4), .val (.int (((p1 &&& (2147483647 : Int32)).toUInt32 >>> ((p2 &&& (31 : Int32)) &&& 31).toUInt32).toInt32)), .val (.int (p3 &&& (3 : Int32))), .val (.int (p4.toInt8.toInt32)), .val (.ref b1), .val (.int (own_r 4 (p3 &&& (3 : Int32)) (((p1 &&& (2147483647 : Int32)).toUInt32 >>> ((p2 &&& (31 : Int32)) &&& 31).toUInt32).toInt32))), .val (.int v158_5)] [(.int (bz ((own_w 4 (p3 &&& (3 : Int32)) (((p1 &&& (2147483647 : Int32)).toUInt32 >>> ((p2 &&& (31 : Int32)) &&& 31).toUInt32).toInt32) [(nar .byte (p4.toInt8.toInt32)), (nar .byte (p4.toInt8.toInt32)), (nar .byte (p4.toInt8.toInt32)), (nar .byte (p4.toInt8.toInt32)), (nar .byte (p4.toInt8.toInt32)), (nar .byte (p4.toInt8.toInt32)), (nar .byte (p4.toInt8.toInt32)), (nar .byte (p4.toInt8.toInt32)), (nar .byte (p4.toInt8.toInt32)), (nar .byte (p4.toInt8.toInt32))]).getD ((1 : Int32)).toNatClampNeg 0 = own_want (1 : Int32) (p3 &&& (3 : Int32)) v158_5 (((p1 &&& (2147483647 : Int32)).toUInt32 >>> ((p2 &&& (31 : Int32)) &&& 31).toUInt32).toInt32) (p4.toInt8.toInt32))))]))
    have hc201_8 : (own_w 4 (p3 &&& (3 : Int32)) (((p1 &&& (2147483647 : Int32)).toUInt32 >>> ((p2 &&& (31 : Int32)) &&& 31).toUInt32).toInt32) [(nar .byte (p4.toInt8.toInt32)), (nar .byte (p4.toInt8.toInt32)), (nar .byte (p4.toInt8.toInt32)), (nar .byte (p4.toInt8.toInt32)), (nar .byte (p4.toInt8.toInt32)), (nar .byte (p4.toInt8.toInt32)), (nar .byte (p4.toInt8.toInt32)), (nar .byte (p4.toInt8.toInt32)), (nar .byte (p4.toInt8.toInt32)), (nar .byte (p4.toInt8.toInt32))]).getD ((1 : Int32)).toNatClampNeg 0 = own_want (1 : Int32) (p3 &&& (3 : Int32)) v158_5 (((p1 &&& (2147483647 : Int32)).toUInt32 >>> ((p2 &&& (31 : Int32)) &&& 31).toUInt32).toInt32) (p4.toInt8.toInt32) := own_ok1 _ _ _ _ (own_nn0 p1 p2) (own_at4 p3) hv158_5
    refine go (fun _ k => XS.ifNo X17.here hx rfl (hb hby at_201) rfl ((if0 _ _).trans (feq (bz_ne hc201_8)).1) k) ?_
    show Go p e below _ (T17.setTop (mkF m 204 #[.val (.int p1), .val (.int p2), .val (.int p3), .val (.int p4), .val (.int (((p1 &&& (2147483647 : Int32)).toUInt32 >>> ((p2 &&& (31 : Int32)) &&& 31).toUInt32).toInt32)), .val (.int (p3 &&& (3 : Int32))), .val (.int (p4.toInt8.toInt32)), .val (.ref b1), .val (.int (own_r 4 (p3 &&& (3 : Int32)) (((p1 &&& (2147483647 : Int32)).toUInt32 >>> ((p2 &&& (31 : Int32)) &&& 31).toUInt32).toInt32))), .val (.int v158_5)] []))
    refine go (fun _ k => XS.aload X17.here hx rfl (hb hby at_204) rfl rfl  k) ?_
    show Go p e below _ (T17.setTop (mkF m 206 #[.val (.int p1), .val (.int p2), .val (.int p3), .val (.int p4), .val (.int (((p1 &&& (2147483647 : Int32)).toUInt32 >>> ((p2 &&& (31 : Int32)) &&& 31).toUInt32).toInt32)), .val (.int (p3 &&& (3 : Int32))), .val (.int (p4.toInt8.toInt32)), .val (.ref b1), .val (.int (own_r 4 (p3 &&& (3 : Int32)) (((p1 &&& (2147483647 : Int32)).toUInt32 >>> ((p2 &&& (31 : Int32)) &&& 31).toUInt32).toInt32))), .val (.int v158_5)] [(.ref b1)]))
    refine go (fun _ k => XS.iconst X17.here hx rfl (hb hby at_206) k) ?_
    show Go p e below _ (T17.setTop (mkF m 207 #[.val (.int p1), .val (.int p2), .val (.int p3), .val (.int p4), .val (.int (((p1 &&& (2147483647 : Int32)).toUInt32 >>> ((p2 &&& (31 : Int32)) &&& 31).toUInt32).toInt32)), .val (.int (p3 &&& (3 : Int32))), .val (.int (p4.toInt8.toInt32)), .val (.ref b1), .val (.int (own_r 4 (p3 &&& (3 : Int32)) (((p1 &&& (2147483647 : Int32)).toUInt32 >>> ((p2 &&& (31 : Int32)) &&& 31).toUInt32).toInt32))), .val (.int v158_5)] [(.int (2 : Int32)), (.ref b1)]))
    refine go (fun _ k => XS.iload X17.here hx rfl (hb hby at_207) rfl  k) ?_
    show Go p e below _ (T17.setTop (mkF m 209 #[.val (.int p1), .val (.int p2), .val (.int p3), .val (.int p4), .val (.int (((p1 &&& (2147483647 : Int32)).toUInt32 >>> ((p2 &&& (31 : Int32)) &&& 31).toUInt32).toInt32)), .val (.int (p3 &&& (3 : Int32))), .val (.int (p4.toInt8.toInt32)), .val (.ref b1), .val (.int (own_r 4 (p3 &&& (3 : Int32)) (((p1 &&& (2147483647 : Int32)).toUInt32 >>> ((p2 &&& (31 : Int32)) &&& 31).toUInt32).toInt32))), .val (.int v158_5)] [(.int (p3 &&& (3 : Int32))), (.int (2 : Int32)), (.ref b1)]))
    refine go (fun _ k => XS.iload X17.here hx rfl (hb hby at_209) rfl  k) ?_
    show Go p e below _ (T17.setTop (mkF m 211 #[.val (.int p1), .val (.int p2), .val (.int p3), .val (.int p4), .val (.int (((p1 &&& (2147483647 : Int32)).toUInt32 >>> ((p2 &&& (31 : Int32)) &&& 31).toUInt32).toInt32)), .val (.int (p3 &&& (3 : Int32))), .val (.int (p4.toInt8.toInt32)), .val (.ref b1), .val (.int (own_r 4 (p3 &&& (3 : Int32)) (((p1 &&& (2147483647 : Int32)).toUInt32 >>> ((p2 &&& (31 : Int32)) &&& 31).toUInt32).toInt32))), .val (.int v158_5)] [(.int v158_5), (.int (p3 &&& (3 : Int32))), (.int (2 : Int32)), (.ref b1)]))
    refine go (fun _ k => XS.iload X17.here hx rfl (hb hby at_211) rfl  k) ?_
    show Go p e below _ (T17.setTop (mkF m 213 #[.val (.int p1), .val (.int p2), .val (.int p3), .val (.int p4), .val (.int (((p1 &&& (2147483647 : Int32)).toUInt32 >>> ((p2 &&& (31 : Int32)) &&& 31).toUInt32).toInt32)), .val (.int (p3 &&& (3 : Int32))), .val (.int (p4.toInt8.toInt32)), .val (.ref b1), .val (.int (own_r 4 (p3 &&& (3 : Int32)) (((p1 &&& (2147483647 : Int32)).toUInt32 >>> ((p2 &&& (31 : Int32)) &&& 31).toUInt32).toInt32))), .val (.int v158_5)] [(.int (((p1 &&& (2147483647 : Int32)).toUInt32 >>> ((p2 &&& (31 : Int32)) &&& 31).toUInt32).toInt32)), (.int v158_5), (.int (p3 &&& (3 : Int32))), (.int (2 : Int32)), (.ref b1)]))
    refine go (fun _ k => XS.iload X17.here hx rfl (hb hby at_213) rfl  k) ?_
    show Go p e below _ (T17.setTop (mkF m 215 #[.val (.int p1), .val (.int p2), .val (.int p3), .val (.int p4), .val (.int (((p1 &&& (2147483647 : Int32)).toUInt32 >>> ((p2 &&& (31 : Int32)) &&& 31).toUInt32).toInt32)), .val (.int (p3 &&& (3 : Int32))), .val (.int (p4.toInt8.toInt32)), .val (.ref b1), .val (.int (own_r 4 (p3 &&& (3 : Int32)) (((p1 &&& (2147483647 : Int32)).toUInt32 >>> ((p2 &&& (31 : Int32)) &&& 31).toUInt32).toInt32))), .val (.int v158_5)] [(.int (p4.toInt8.toInt32)), (.int (((p1 &&& (2147483647 : Int32)).toUInt32 >>> ((p2 &&& (31 : Int32)) &&& 31).toUInt32).toInt32)), (.int v158_5), (.int (p3 &&& (3 : Int32))), (.int (2 : Int32)), (.ref b1)]))
    obtain ⟨_, _, ⟨T18, L18, k18, n18⟩, -, X18, ⟨Lc18, hQ18, l18, y18, z18⟩, st18⟩ := Jvm.LawKit.callS X17 hx (y := (⟨"com/example/drienerlo/drienerlo/index/VarintWritePinLaw", "ok", "([BIIIIB)Z"⟩ : MethodName)) hown (mvT hZ (hw _ (List.mem_of_getElem? (i := 6) rfl))) (mvT hZ (hw _ (List.mem_of_getElem? (i := 7) rfl))) (mvT hZ (hw _ (List.mem_of_getElem? (i := 8) rfl))) (mvT hZ (hw _ (List.mem_of_getElem? (i := 9) rfl))) (by decide) (backOf (W := 0) (rm2 l Z a0 hw [] b1 (2 : Int32) (p3 &&& (3 : Int32)) v158_5 (((p1 &&& (2147483647 : Int32)).toUInt32 >>> ((p2 &&& (31 : Int32)) &&& 31).toUInt32).toInt32) (p4.toInt8.toInt32) k1 (own_w 4 (p3 &&& (3 : Int32)) (((p1 &&& (2147483647 : Int32)).toUInt32 >>> ((p2 &&& (31 : Int32)) &&& 31).toUInt32).toInt32) [(nar .byte (p4.toInt8.toInt32)), (nar .byte (p4.toInt8.toInt32)), (nar .byte (p4.toInt8.toInt32)), (nar .byte (p4.toInt8.toInt32)), (nar .byte (p4.toInt8.toInt32)), (nar .byte (p4.toInt8.toInt32)), (nar .byte (p4.toInt8.toInt32)), (nar .byte (p4.toInt8.toInt32)), (nar .byte (p4.toInt8.toInt32)), (nar .byte (p4.toInt8.toInt32))]) T12.heap n0 (Nat.le_trans Z0 K16.1) r12_1 (⟨by decide, by decide⟩ : ¬ (2 : Int32) < 0 ∧ (2 : Int32) < 10)) hZ (hw _ (List.mem_of_getElem? (i := 9) rfl)) (hw _ (List.mem_of_getElem? (i := 8) rfl)) (by decide) (by decide)) (g := (mkF m 215 #[.val (.int p1), .val (.int p2), .val (.int p3), .val (.int p4), .val (.int (((p1 &&& (2147483647 : Int32)).toUInt32 >>> ((p2 &&& (31 : Int32)) &&& 31).toUInt32).toInt32)), .val (.int (p3 &&& (3 : Int32))), .val (.int (p4.toInt8.toInt32)), .val (.ref b1), .val (.int (own_r 4 (p3 &&& (3 : Int32)) (((p1 &&& (2147483647 : Int32)).toUInt32 >>> ((p2 &&& (31 : Int32)) &&& 31).toUInt32).toInt32))), .val (.int v158_5)] [(.int (p4.toInt8.toInt32)), (.int (((p1 &&& (2147483647 : Int32)).toUInt32 >>> ((p2 &&& (31 : Int32)) &&& 31).toUInt32).toInt32)), (.int v158_5), (.int (p3 &&& (3 : Int32))), (.int (2 : Int32)), (.ref b1)])) rfl (by rw [hml]; rfl) (argsL := [(.ref b1), (.int (2 : Int32)), (.int (p3 &&& (3 : Int32))), (.int v158_5), (.int (((p1 &&& (2147483647 : Int32)).toUInt32 >>> ((p2 &&& (31 : Int32)) &&& 31).toUInt32).toInt32)), (.int (p4.toInt8.toInt32))]) (rest := []) (lenOf pd_1 rfl) rfl (by show 2 * 0 + _ ≤ _; exact Nat.le_of_eq rfl) (hb hby at_215) (fun _ _ => ⟨rfl, e17, (by decide : 1 + 0 ≤ _), (by decide : 10 + 0 ≤ _)⟩)
    dsimp only [Pt.U, Pt.locs, Pt.cells, Pt.slots] at X18 l18 y18 z18 st18 hQ18
    subst l18 y18 z18
    obtain ⟨rfl, N18q, e18⟩ := hQ18
    have N18 := Fr.app N17 N18q
    skip
    refine go st18 ?_
    show Go p e below _ (T18.setTop (mkF m 218 #[.val (.int p1), .val (.int p2), .val (.int p3), .val (.int p4), .val (.int (((p1 &&& (2147483647 : Int32)).toUInt32 >>> ((p2 &&& (31 : Int32)) &&& 31).toUInt32).toInt32)), .val (.int (p3 &&& (3 : Int32))), .val (.int (p4.toInt8.toInt32)), .val (.ref b1), .val (.int (own_r 4 (p3 &&& (3 : Int32)) (((p1 &&& (2147483647 : Int32)).toUInt32 >>> ((p2 &&& (31 : Int32)) &&& 31).toUInt32).toInt32))), .val (.int v158_5)] [(.int (bz ((own_w 4 (p3 &&& (3 : Int32)) (((p1 &&& (2147483647 : Int32)).toUInt32 >>> ((p2 &&& (31 : Int32)) &&& 31).toUInt32).toInt32) [(nar .byte (p4.toInt8.toInt32)), (nar .byte (p4.toInt8.toInt32)), (nar .byte (p4.toInt8.toInt32)), (nar .byte (p4.toInt8.toInt32)), (nar .byte (p4.toInt8.toInt32)), (nar .byte (p4.toInt8.toInt32)), (nar .byte (p4.toInt8.toInt32)), (nar .byte (p4.toInt8.toInt32)), (nar .byte (p4.toInt8.toInt32)), (nar .byte (p4.toInt8.toInt32))]).getD ((2 : Int32)).toNatClampNeg 0 = own_want (2 : Int32) (p3 &&& (3 : Int32)) v158_5 (((p1 &&& (2147483647 : Int32)).toUInt32 >>> ((p2 &&& (31 : Int32)) &&& 31).toUInt32).toInt32) (p4.toInt8.toInt32))))]))
    have hc218_9 : (own_w 4 (p3 &&& (3 : Int32)) (((p1 &&& (2147483647 : Int32)).toUInt32 >>> ((p2 &&& (31 : Int32)) &&& 31).toUInt32).toInt32) [(nar .byte (p4.toInt8.toInt32)), (nar .byte (p4.toInt8.toInt32)), (nar .byte (p4.toInt8.toInt32)), (nar .byte (p4.toInt8.toInt32)), (nar .byte (p4.toInt8.toInt32)), (nar .byte (p4.toInt8.toInt32)), (nar .byte (p4.toInt8.toInt32)), (nar .byte (p4.toInt8.toInt32)), (nar .byte (p4.toInt8.toInt32)), (nar .byte (p4.toInt8.toInt32))]).getD ((2 : Int32)).toNatClampNeg 0 = own_want (2 : Int32) (p3 &&& (3 : Int32)) v158_5 (((p1 &&& (2147483647 : Int32)).toUInt32 >>> ((p2 &&& (31 : Int32)) &&& 31).toUInt32).toInt32) (p4.toInt8.toInt32) := own_ok2 _ _ _ _ (own_nn0 p1 p2) (own_at4 p3) hv158_5
    refine go (fun _ k => XS.ifNo X18.here hx rfl (hb hby at_218) rfl ((if0 _ _).trans (feq (bz_ne hc218_9)).1) k) ?_
    show Go p e below _ (T18.setTop (mkF m 221 #[.val (.int p1), .val (.int p2), .val (.int p3), .val (.int p4), .val (.int (((p1 &&& (2147483647 : Int32)).toUInt32 >>> ((p2 &&& (31 : Int32)) &&& 31).toUInt32).toInt32)), .val (.int (p3 &&& (3 : Int32))), .val (.int (p4.toInt8.toInt32)), .val (.ref b1), .val (.int (own_r 4 (p3 &&& (3 : Int32)) (((p1 &&& (2147483647 : Int32)).toUInt32 >>> ((p2 &&& (31 : Int32)) &&& 31).toUInt32).toInt32))), .val (.int v158_5)] []))
    refine go (fun _ k => XS.aload X18.here hx rfl (hb hby at_221) rfl rfl  k) ?_
    show Go p e below _ (T18.setTop (mkF m 223 #[.val (.int p1), .val (.int p2), .val (.int p3), .val (.int p4), .val (.int (((p1 &&& (2147483647 : Int32)).toUInt32 >>> ((p2 &&& (31 : Int32)) &&& 31).toUInt32).toInt32)), .val (.int (p3 &&& (3 : Int32))), .val (.int (p4.toInt8.toInt32)), .val (.ref b1), .val (.int (own_r 4 (p3 &&& (3 : Int32)) (((p1 &&& (2147483647 : Int32)).toUInt32 >>> ((p2 &&& (31 : Int32)) &&& 31).toUInt32).toInt32))), .val (.int v158_5)] [(.ref b1)]))
    refine go (fun _ k => XS.iconst X18.here hx rfl (hb hby at_223) k) ?_
    show Go p e below _ (T18.setTop (mkF m 224 #[.val (.int p1), .val (.int p2), .val (.int p3), .val (.int p4), .val (.int (((p1 &&& (2147483647 : Int32)).toUInt32 >>> ((p2 &&& (31 : Int32)) &&& 31).toUInt32).toInt32)), .val (.int (p3 &&& (3 : Int32))), .val (.int (p4.toInt8.toInt32)), .val (.ref b1), .val (.int (own_r 4 (p3 &&& (3 : Int32)) (((p1 &&& (2147483647 : Int32)).toUInt32 >>> ((p2 &&& (31 : Int32)) &&& 31).toUInt32).toInt32))), .val (.int v158_5)] [(.int (3 : Int32)), (.ref b1)]))
    refine go (fun _ k => XS.iload X18.here hx rfl (hb hby at_224) rfl  k) ?_
    show Go p e below _ (T18.setTop (mkF m 226 #[.val (.int p1), .val (.int p2), .val (.int p3), .val (.int p4), .val (.int (((p1 &&& (2147483647 : Int32)).toUInt32 >>> ((p2 &&& (31 : Int32)) &&& 31).toUInt32).toInt32)), .val (.int (p3 &&& (3 : Int32))), .val (.int (p4.toInt8.toInt32)), .val (.ref b1), .val (.int (own_r 4 (p3 &&& (3 : Int32)) (((p1 &&& (2147483647 : Int32)).toUInt32 >>> ((p2 &&& (31 : Int32)) &&& 31).toUInt32).toInt32))), .val (.int v158_5)] [(.int (p3 &&& (3 : Int32))), (.int (3 : Int32)), (.ref b1)]))
    refine go (fun _ k => XS.iload X18.here hx rfl (hb hby at_226) rfl  k) ?_
    show Go p e below _ (T18.setTop (mkF m 228 #[.val (.int p1), .val (.int p2), .val (.int p3), .val (.int p4), .val (.int (((p1 &&& (2147483647 : Int32)).toUInt32 >>> ((p2 &&& (31 : Int32)) &&& 31).toUInt32).toInt32)), .val (.int (p3 &&& (3 : Int32))), .val (.int (p4.toInt8.toInt32)), .val (.ref b1), .val (.int (own_r 4 (p3 &&& (3 : Int32)) (((p1 &&& (2147483647 : Int32)).toUInt32 >>> ((p2 &&& (31 : Int32)) &&& 31).toUInt32).toInt32))), .val (.int v158_5)] [(.int v158_5), (.int (p3 &&& (3 : Int32))), (.int (3 : Int32)), (.ref b1)]))
    refine go (fun _ k => XS.iload X18.here hx rfl (hb hby at_228) rfl  k) ?_
    show Go p e below _ (T18.setTop (mkF m 230 #[.val (.int p1), .val (.int p2), .val (.int p3), .val (.int p4), .val (.int (((p1 &&& (2147483647 : Int32)).toUInt32 >>> ((p2 &&& (31 : Int32)) &&& 31).toUInt32).toInt32)), .val (.int (p3 &&& (3 : Int32))), .val (.int (p4.toInt8.toInt32)), .val (.ref b1), .val (.int (own_r 4 (p3 &&& (3 : Int32)) (((p1 &&& (2147483647 : Int32)).toUInt32 >>> ((p2 &&& (31 : Int32)) &&& 31).toUInt32).toInt32))), .val (.int v158_5)] [(.int (((p1 &&& (2147483647 : Int32)).toUInt32 >>> ((p2 &&& (31 : Int32)) &&& 31).toUInt32).toInt32)), (.int v158_5), (.int (p3 &&& (3 : Int32))), (.int (3 : Int32)), (.ref b1)]))
    refine go (fun _ k => XS.iload X18.here hx rfl (hb hby at_230) rfl  k) ?_
    show Go p e below _ (T18.setTop (mkF m 232 #[.val (.int p1), .val (.int p2), .val (.int p3), .val (.int p4), .val (.int (((p1 &&& (2147483647 : Int32)).toUInt32 >>> ((p2 &&& (31 : Int32)) &&& 31).toUInt32).toInt32)), .val (.int (p3 &&& (3 : Int32))), .val (.int (p4.toInt8.toInt32)), .val (.ref b1), .val (.int (own_r 4 (p3 &&& (3 : Int32)) (((p1 &&& (2147483647 : Int32)).toUInt32 >>> ((p2 &&& (31 : Int32)) &&& 31).toUInt32).toInt32))), .val (.int v158_5)] [(.int (p4.toInt8.toInt32)), (.int (((p1 &&& (2147483647 : Int32)).toUInt32 >>> ((p2 &&& (31 : Int32)) &&& 31).toUInt32).toInt32)), (.int v158_5), (.int (p3 &&& (3 : Int32))), (.int (3 : Int32)), (.ref b1)]))
    obtain ⟨_, _, ⟨T19, L19, k19, n19⟩, -, X19, ⟨Lc19, hQ19, l19, y19, z19⟩, st19⟩ := Jvm.LawKit.callS X18 hx (y := (⟨"com/example/drienerlo/drienerlo/index/VarintWritePinLaw", "ok", "([BIIIIB)Z"⟩ : MethodName)) hown (mvT hZ (hw _ (List.mem_of_getElem? (i := 6) rfl))) (mvT hZ (hw _ (List.mem_of_getElem? (i := 7) rfl))) (mvT hZ (hw _ (List.mem_of_getElem? (i := 8) rfl))) (mvT hZ (hw _ (List.mem_of_getElem? (i := 9) rfl))) (by decide) (backOf (W := 0) (rm2 l Z a0 hw [] b1 (3 : Int32) (p3 &&& (3 : Int32)) v158_5 (((p1 &&& (2147483647 : Int32)).toUInt32 >>> ((p2 &&& (31 : Int32)) &&& 31).toUInt32).toInt32) (p4.toInt8.toInt32) k1 (own_w 4 (p3 &&& (3 : Int32)) (((p1 &&& (2147483647 : Int32)).toUInt32 >>> ((p2 &&& (31 : Int32)) &&& 31).toUInt32).toInt32) [(nar .byte (p4.toInt8.toInt32)), (nar .byte (p4.toInt8.toInt32)), (nar .byte (p4.toInt8.toInt32)), (nar .byte (p4.toInt8.toInt32)), (nar .byte (p4.toInt8.toInt32)), (nar .byte (p4.toInt8.toInt32)), (nar .byte (p4.toInt8.toInt32)), (nar .byte (p4.toInt8.toInt32)), (nar .byte (p4.toInt8.toInt32)), (nar .byte (p4.toInt8.toInt32))]) T12.heap n0 (Nat.le_trans Z0 K16.1) r12_1 (⟨by decide, by decide⟩ : ¬ (3 : Int32) < 0 ∧ (3 : Int32) < 10)) hZ (hw _ (List.mem_of_getElem? (i := 9) rfl)) (hw _ (List.mem_of_getElem? (i := 8) rfl)) (by decide) (by decide)) (g := (mkF m 232 #[.val (.int p1), .val (.int p2), .val (.int p3), .val (.int p4), .val (.int (((p1 &&& (2147483647 : Int32)).toUInt32 >>> ((p2 &&& (31 : Int32)) &&& 31).toUInt32).toInt32)), .val (.int (p3 &&& (3 : Int32))), .val (.int (p4.toInt8.toInt32)), .val (.ref b1), .val (.int (own_r 4 (p3 &&& (3 : Int32)) (((p1 &&& (2147483647 : Int32)).toUInt32 >>> ((p2 &&& (31 : Int32)) &&& 31).toUInt32).toInt32))), .val (.int v158_5)] [(.int (p4.toInt8.toInt32)), (.int (((p1 &&& (2147483647 : Int32)).toUInt32 >>> ((p2 &&& (31 : Int32)) &&& 31).toUInt32).toInt32)), (.int v158_5), (.int (p3 &&& (3 : Int32))), (.int (3 : Int32)), (.ref b1)])) rfl (by rw [hml]; rfl) (argsL := [(.ref b1), (.int (3 : Int32)), (.int (p3 &&& (3 : Int32))), (.int v158_5), (.int (((p1 &&& (2147483647 : Int32)).toUInt32 >>> ((p2 &&& (31 : Int32)) &&& 31).toUInt32).toInt32)), (.int (p4.toInt8.toInt32))]) (rest := []) (lenOf pd_1 rfl) rfl (by show 2 * 0 + _ ≤ _; exact Nat.le_of_eq rfl) (hb hby at_232) (fun _ _ => ⟨rfl, e18, (by decide : 1 + 0 ≤ _), (by decide : 10 + 0 ≤ _)⟩)
    dsimp only [Pt.U, Pt.locs, Pt.cells, Pt.slots] at X19 l19 y19 z19 st19 hQ19
    subst l19 y19 z19
    obtain ⟨rfl, N19q, e19⟩ := hQ19
    have N19 := Fr.app N18 N19q
    skip
    refine go st19 ?_
    show Go p e below _ (T19.setTop (mkF m 235 #[.val (.int p1), .val (.int p2), .val (.int p3), .val (.int p4), .val (.int (((p1 &&& (2147483647 : Int32)).toUInt32 >>> ((p2 &&& (31 : Int32)) &&& 31).toUInt32).toInt32)), .val (.int (p3 &&& (3 : Int32))), .val (.int (p4.toInt8.toInt32)), .val (.ref b1), .val (.int (own_r 4 (p3 &&& (3 : Int32)) (((p1 &&& (2147483647 : Int32)).toUInt32 >>> ((p2 &&& (31 : Int32)) &&& 31).toUInt32).toInt32))), .val (.int v158_5)] [(.int (bz ((own_w 4 (p3 &&& (3 : Int32)) (((p1 &&& (2147483647 : Int32)).toUInt32 >>> ((p2 &&& (31 : Int32)) &&& 31).toUInt32).toInt32) [(nar .byte (p4.toInt8.toInt32)), (nar .byte (p4.toInt8.toInt32)), (nar .byte (p4.toInt8.toInt32)), (nar .byte (p4.toInt8.toInt32)), (nar .byte (p4.toInt8.toInt32)), (nar .byte (p4.toInt8.toInt32)), (nar .byte (p4.toInt8.toInt32)), (nar .byte (p4.toInt8.toInt32)), (nar .byte (p4.toInt8.toInt32)), (nar .byte (p4.toInt8.toInt32))]).getD ((3 : Int32)).toNatClampNeg 0 = own_want (3 : Int32) (p3 &&& (3 : Int32)) v158_5 (((p1 &&& (2147483647 : Int32)).toUInt32 >>> ((p2 &&& (31 : Int32)) &&& 31).toUInt32).toInt32) (p4.toInt8.toInt32))))]))
    have hc235_10 : (own_w 4 (p3 &&& (3 : Int32)) (((p1 &&& (2147483647 : Int32)).toUInt32 >>> ((p2 &&& (31 : Int32)) &&& 31).toUInt32).toInt32) [(nar .byte (p4.toInt8.toInt32)), (nar .byte (p4.toInt8.toInt32)), (nar .byte (p4.toInt8.toInt32)), (nar .byte (p4.toInt8.toInt32)), (nar .byte (p4.toInt8.toInt32)), (nar .byte (p4.toInt8.toInt32)), (nar .byte (p4.toInt8.toInt32)), (nar .byte (p4.toInt8.toInt32)), (nar .byte (p4.toInt8.toInt32)), (nar .byte (p4.toInt8.toInt32))]).getD ((3 : Int32)).toNatClampNeg 0 = own_want (3 : Int32) (p3 &&& (3 : Int32)) v158_5 (((p1 &&& (2147483647 : Int32)).toUInt32 >>> ((p2 &&& (31 : Int32)) &&& 31).toUInt32).toInt32) (p4.toInt8.toInt32) := own_ok3 _ _ _ _ (own_nn0 p1 p2) (own_at4 p3) hv158_5
    refine go (fun _ k => XS.ifNo X19.here hx rfl (hb hby at_235) rfl ((if0 _ _).trans (feq (bz_ne hc235_10)).1) k) ?_
    show Go p e below _ (T19.setTop (mkF m 238 #[.val (.int p1), .val (.int p2), .val (.int p3), .val (.int p4), .val (.int (((p1 &&& (2147483647 : Int32)).toUInt32 >>> ((p2 &&& (31 : Int32)) &&& 31).toUInt32).toInt32)), .val (.int (p3 &&& (3 : Int32))), .val (.int (p4.toInt8.toInt32)), .val (.ref b1), .val (.int (own_r 4 (p3 &&& (3 : Int32)) (((p1 &&& (2147483647 : Int32)).toUInt32 >>> ((p2 &&& (31 : Int32)) &&& 31).toUInt32).toInt32))), .val (.int v158_5)] []))
    refine go (fun _ k => XS.aload X19.here hx rfl (hb hby at_238) rfl rfl  k) ?_
    show Go p e below _ (T19.setTop (mkF m 240 #[.val (.int p1), .val (.int p2), .val (.int p3), .val (.int p4), .val (.int (((p1 &&& (2147483647 : Int32)).toUInt32 >>> ((p2 &&& (31 : Int32)) &&& 31).toUInt32).toInt32)), .val (.int (p3 &&& (3 : Int32))), .val (.int (p4.toInt8.toInt32)), .val (.ref b1), .val (.int (own_r 4 (p3 &&& (3 : Int32)) (((p1 &&& (2147483647 : Int32)).toUInt32 >>> ((p2 &&& (31 : Int32)) &&& 31).toUInt32).toInt32))), .val (.int v158_5)] [(.ref b1)]))
    refine go (fun _ k => XS.iconst X19.here hx rfl (hb hby at_240) k) ?_
    show Go p e below _ (T19.setTop (mkF m 241 #[.val (.int p1), .val (.int p2), .val (.int p3), .val (.int p4), .val (.int (((p1 &&& (2147483647 : Int32)).toUInt32 >>> ((p2 &&& (31 : Int32)) &&& 31).toUInt32).toInt32)), .val (.int (p3 &&& (3 : Int32))), .val (.int (p4.toInt8.toInt32)), .val (.ref b1), .val (.int (own_r 4 (p3 &&& (3 : Int32)) (((p1 &&& (2147483647 : Int32)).toUInt32 >>> ((p2 &&& (31 : Int32)) &&& 31).toUInt32).toInt32))), .val (.int v158_5)] [(.int (4 : Int32)), (.ref b1)]))
    refine go (fun _ k => XS.iload X19.here hx rfl (hb hby at_241) rfl  k) ?_
    show Go p e below _ (T19.setTop (mkF m 243 #[.val (.int p1), .val (.int p2), .val (.int p3), .val (.int p4), .val (.int (((p1 &&& (2147483647 : Int32)).toUInt32 >>> ((p2 &&& (31 : Int32)) &&& 31).toUInt32).toInt32)), .val (.int (p3 &&& (3 : Int32))), .val (.int (p4.toInt8.toInt32)), .val (.ref b1), .val (.int (own_r 4 (p3 &&& (3 : Int32)) (((p1 &&& (2147483647 : Int32)).toUInt32 >>> ((p2 &&& (31 : Int32)) &&& 31).toUInt32).toInt32))), .val (.int v158_5)] [(.int (p3 &&& (3 : Int32))), (.int (4 : Int32)), (.ref b1)]))
    refine go (fun _ k => XS.iload X19.here hx rfl (hb hby at_243) rfl  k) ?_
    show Go p e below _ (T19.setTop (mkF m 245 #[.val (.int p1), .val (.int p2), .val (.int p3), .val (.int p4), .val (.int (((p1 &&& (2147483647 : Int32)).toUInt32 >>> ((p2 &&& (31 : Int32)) &&& 31).toUInt32).toInt32)), .val (.int (p3 &&& (3 : Int32))), .val (.int (p4.toInt8.toInt32)), .val (.ref b1), .val (.int (own_r 4 (p3 &&& (3 : Int32)) (((p1 &&& (2147483647 : Int32)).toUInt32 >>> ((p2 &&& (31 : Int32)) &&& 31).toUInt32).toInt32))), .val (.int v158_5)] [(.int v158_5), (.int (p3 &&& (3 : Int32))), (.int (4 : Int32)), (.ref b1)]))
    refine go (fun _ k => XS.iload X19.here hx rfl (hb hby at_245) rfl  k) ?_
    show Go p e below _ (T19.setTop (mkF m 247 #[.val (.int p1), .val (.int p2), .val (.int p3), .val (.int p4), .val (.int (((p1 &&& (2147483647 : Int32)).toUInt32 >>> ((p2 &&& (31 : Int32)) &&& 31).toUInt32).toInt32)), .val (.int (p3 &&& (3 : Int32))), .val (.int (p4.toInt8.toInt32)), .val (.ref b1), .val (.int (own_r 4 (p3 &&& (3 : Int32)) (((p1 &&& (2147483647 : Int32)).toUInt32 >>> ((p2 &&& (31 : Int32)) &&& 31).toUInt32).toInt32))), .val (.int v158_5)] [(.int (((p1 &&& (2147483647 : Int32)).toUInt32 >>> ((p2 &&& (31 : Int32)) &&& 31).toUInt32).toInt32)), (.int v158_5), (.int (p3 &&& (3 : Int32))), (.int (4 : Int32)), (.ref b1)]))
    refine go (fun _ k => XS.iload X19.here hx rfl (hb hby at_247) rfl  k) ?_
    show Go p e below _ (T19.setTop (mkF m 249 #[.val (.int p1), .val (.int p2), .val (.int p3), .val (.int p4), .val (.int (((p1 &&& (2147483647 : Int32)).toUInt32 >>> ((p2 &&& (31 : Int32)) &&& 31).toUInt32).toInt32)), .val (.int (p3 &&& (3 : Int32))), .val (.int (p4.toInt8.toInt32)), .val (.ref b1), .val (.int (own_r 4 (p3 &&& (3 : Int32)) (((p1 &&& (2147483647 : Int32)).toUInt32 >>> ((p2 &&& (31 : Int32)) &&& 31).toUInt32).toInt32))), .val (.int v158_5)] [(.int (p4.toInt8.toInt32)), (.int (((p1 &&& (2147483647 : Int32)).toUInt32 >>> ((p2 &&& (31 : Int32)) &&& 31).toUInt32).toInt32)), (.int v158_5), (.int (p3 &&& (3 : Int32))), (.int (4 : Int32)), (.ref b1)]))
    obtain ⟨_, _, ⟨T20, L20, k20, n20⟩, -, X20, ⟨Lc20, hQ20, l20, y20, z20⟩, st20⟩ := Jvm.LawKit.callS X19 hx (y := (⟨"com/example/drienerlo/drienerlo/index/VarintWritePinLaw", "ok", "([BIIIIB)Z"⟩ : MethodName)) hown (mvT hZ (hw _ (List.mem_of_getElem? (i := 6) rfl))) (mvT hZ (hw _ (List.mem_of_getElem? (i := 7) rfl))) (mvT hZ (hw _ (List.mem_of_getElem? (i := 8) rfl))) (mvT hZ (hw _ (List.mem_of_getElem? (i := 9) rfl))) (by decide) (backOf (W := 0) (rm2 l Z a0 hw [] b1 (4 : Int32) (p3 &&& (3 : Int32)) v158_5 (((p1 &&& (2147483647 : Int32)).toUInt32 >>> ((p2 &&& (31 : Int32)) &&& 31).toUInt32).toInt32) (p4.toInt8.toInt32) k1 (own_w 4 (p3 &&& (3 : Int32)) (((p1 &&& (2147483647 : Int32)).toUInt32 >>> ((p2 &&& (31 : Int32)) &&& 31).toUInt32).toInt32) [(nar .byte (p4.toInt8.toInt32)), (nar .byte (p4.toInt8.toInt32)), (nar .byte (p4.toInt8.toInt32)), (nar .byte (p4.toInt8.toInt32)), (nar .byte (p4.toInt8.toInt32)), (nar .byte (p4.toInt8.toInt32)), (nar .byte (p4.toInt8.toInt32)), (nar .byte (p4.toInt8.toInt32)), (nar .byte (p4.toInt8.toInt32)), (nar .byte (p4.toInt8.toInt32))]) T12.heap n0 (Nat.le_trans Z0 K16.1) r12_1 (⟨by decide, by decide⟩ : ¬ (4 : Int32) < 0 ∧ (4 : Int32) < 10)) hZ (hw _ (List.mem_of_getElem? (i := 9) rfl)) (hw _ (List.mem_of_getElem? (i := 8) rfl)) (by decide) (by decide)) (g := (mkF m 249 #[.val (.int p1), .val (.int p2), .val (.int p3), .val (.int p4), .val (.int (((p1 &&& (2147483647 : Int32)).toUInt32 >>> ((p2 &&& (31 : Int32)) &&& 31).toUInt32).toInt32)), .val (.int (p3 &&& (3 : Int32))), .val (.int (p4.toInt8.toInt32)), .val (.ref b1), .val (.int (own_r 4 (p3 &&& (3 : Int32)) (((p1 &&& (2147483647 : Int32)).toUInt32 >>> ((p2 &&& (31 : Int32)) &&& 31).toUInt32).toInt32))), .val (.int v158_5)] [(.int (p4.toInt8.toInt32)), (.int (((p1 &&& (2147483647 : Int32)).toUInt32 >>> ((p2 &&& (31 : Int32)) &&& 31).toUInt32).toInt32)), (.int v158_5), (.int (p3 &&& (3 : Int32))), (.int (4 : Int32)), (.ref b1)])) rfl (by rw [hml]; rfl) (argsL := [(.ref b1), (.int (4 : Int32)), (.int (p3 &&& (3 : Int32))), (.int v158_5), (.int (((p1 &&& (2147483647 : Int32)).toUInt32 >>> ((p2 &&& (31 : Int32)) &&& 31).toUInt32).toInt32)), (.int (p4.toInt8.toInt32))]) (rest := []) (lenOf pd_1 rfl) rfl (by show 2 * 0 + _ ≤ _; exact Nat.le_of_eq rfl) (hb hby at_249) (fun _ _ => ⟨rfl, e19, (by decide : 1 + 0 ≤ _), (by decide : 10 + 0 ≤ _)⟩)
    dsimp only [Pt.U, Pt.locs, Pt.cells, Pt.slots] at X20 l20 y20 z20 st20 hQ20
    subst l20 y20 z20
    obtain ⟨rfl, N20q, e20⟩ := hQ20
    have N20 := Fr.app N19 N20q
    skip
    refine go st20 ?_
    show Go p e below _ (T20.setTop (mkF m 252 #[.val (.int p1), .val (.int p2), .val (.int p3), .val (.int p4), .val (.int (((p1 &&& (2147483647 : Int32)).toUInt32 >>> ((p2 &&& (31 : Int32)) &&& 31).toUInt32).toInt32)), .val (.int (p3 &&& (3 : Int32))), .val (.int (p4.toInt8.toInt32)), .val (.ref b1), .val (.int (own_r 4 (p3 &&& (3 : Int32)) (((p1 &&& (2147483647 : Int32)).toUInt32 >>> ((p2 &&& (31 : Int32)) &&& 31).toUInt32).toInt32))), .val (.int v158_5)] [(.int (bz ((own_w 4 (p3 &&& (3 : Int32)) (((p1 &&& (2147483647 : Int32)).toUInt32 >>> ((p2 &&& (31 : Int32)) &&& 31).toUInt32).toInt32) [(nar .byte (p4.toInt8.toInt32)), (nar .byte (p4.toInt8.toInt32)), (nar .byte (p4.toInt8.toInt32)), (nar .byte (p4.toInt8.toInt32)), (nar .byte (p4.toInt8.toInt32)), (nar .byte (p4.toInt8.toInt32)), (nar .byte (p4.toInt8.toInt32)), (nar .byte (p4.toInt8.toInt32)), (nar .byte (p4.toInt8.toInt32)), (nar .byte (p4.toInt8.toInt32))]).getD ((4 : Int32)).toNatClampNeg 0 = own_want (4 : Int32) (p3 &&& (3 : Int32)) v158_5 (((p1 &&& (2147483647 : Int32)).toUInt32 >>> ((p2 &&& (31 : Int32)) &&& 31).toUInt32).toInt32) (p4.toInt8.toInt32))))]))
    have hc252_11 : (own_w 4 (p3 &&& (3 : Int32)) (((p1 &&& (2147483647 : Int32)).toUInt32 >>> ((p2 &&& (31 : Int32)) &&& 31).toUInt32).toInt32) [(nar .byte (p4.toInt8.toInt32)), (nar .byte (p4.toInt8.toInt32)), (nar .byte (p4.toInt8.toInt32)), (nar .byte (p4.toInt8.toInt32)), (nar .byte (p4.toInt8.toInt32)), (nar .byte (p4.toInt8.toInt32)), (nar .byte (p4.toInt8.toInt32)), (nar .byte (p4.toInt8.toInt32)), (nar .byte (p4.toInt8.toInt32)), (nar .byte (p4.toInt8.toInt32))]).getD ((4 : Int32)).toNatClampNeg 0 = own_want (4 : Int32) (p3 &&& (3 : Int32)) v158_5 (((p1 &&& (2147483647 : Int32)).toUInt32 >>> ((p2 &&& (31 : Int32)) &&& 31).toUInt32).toInt32) (p4.toInt8.toInt32) := own_ok4 _ _ _ _ (own_nn0 p1 p2) (own_at4 p3) hv158_5
    refine go (fun _ k => XS.ifNo X20.here hx rfl (hb hby at_252) rfl ((if0 _ _).trans (feq (bz_ne hc252_11)).1) k) ?_
    show Go p e below _ (T20.setTop (mkF m 255 #[.val (.int p1), .val (.int p2), .val (.int p3), .val (.int p4), .val (.int (((p1 &&& (2147483647 : Int32)).toUInt32 >>> ((p2 &&& (31 : Int32)) &&& 31).toUInt32).toInt32)), .val (.int (p3 &&& (3 : Int32))), .val (.int (p4.toInt8.toInt32)), .val (.ref b1), .val (.int (own_r 4 (p3 &&& (3 : Int32)) (((p1 &&& (2147483647 : Int32)).toUInt32 >>> ((p2 &&& (31 : Int32)) &&& 31).toUInt32).toInt32))), .val (.int v158_5)] []))
    refine go (fun _ k => XS.aload X20.here hx rfl (hb hby at_255) rfl rfl  k) ?_
    show Go p e below _ (T20.setTop (mkF m 257 #[.val (.int p1), .val (.int p2), .val (.int p3), .val (.int p4), .val (.int (((p1 &&& (2147483647 : Int32)).toUInt32 >>> ((p2 &&& (31 : Int32)) &&& 31).toUInt32).toInt32)), .val (.int (p3 &&& (3 : Int32))), .val (.int (p4.toInt8.toInt32)), .val (.ref b1), .val (.int (own_r 4 (p3 &&& (3 : Int32)) (((p1 &&& (2147483647 : Int32)).toUInt32 >>> ((p2 &&& (31 : Int32)) &&& 31).toUInt32).toInt32))), .val (.int v158_5)] [(.ref b1)]))
    refine go (fun _ k => XS.iconst X20.here hx rfl (hb hby at_257) k) ?_
    show Go p e below _ (T20.setTop (mkF m 258 #[.val (.int p1), .val (.int p2), .val (.int p3), .val (.int p4), .val (.int (((p1 &&& (2147483647 : Int32)).toUInt32 >>> ((p2 &&& (31 : Int32)) &&& 31).toUInt32).toInt32)), .val (.int (p3 &&& (3 : Int32))), .val (.int (p4.toInt8.toInt32)), .val (.ref b1), .val (.int (own_r 4 (p3 &&& (3 : Int32)) (((p1 &&& (2147483647 : Int32)).toUInt32 >>> ((p2 &&& (31 : Int32)) &&& 31).toUInt32).toInt32))), .val (.int v158_5)] [(.int (5 : Int32)), (.ref b1)]))
    refine go (fun _ k => XS.iload X20.here hx rfl (hb hby at_258) rfl  k) ?_
    show Go p e below _ (T20.setTop (mkF m 260 #[.val (.int p1), .val (.int p2), .val (.int p3), .val (.int p4), .val (.int (((p1 &&& (2147483647 : Int32)).toUInt32 >>> ((p2 &&& (31 : Int32)) &&& 31).toUInt32).toInt32)), .val (.int (p3 &&& (3 : Int32))), .val (.int (p4.toInt8.toInt32)), .val (.ref b1), .val (.int (own_r 4 (p3 &&& (3 : Int32)) (((p1 &&& (2147483647 : Int32)).toUInt32 >>> ((p2 &&& (31 : Int32)) &&& 31).toUInt32).toInt32))), .val (.int v158_5)] [(.int (p3 &&& (3 : Int32))), (.int (5 : Int32)), (.ref b1)]))
    refine go (fun _ k => XS.iload X20.here hx rfl (hb hby at_260) rfl  k) ?_
    show Go p e below _ (T20.setTop (mkF m 262 #[.val (.int p1), .val (.int p2), .val (.int p3), .val (.int p4), .val (.int (((p1 &&& (2147483647 : Int32)).toUInt32 >>> ((p2 &&& (31 : Int32)) &&& 31).toUInt32).toInt32)), .val (.int (p3 &&& (3 : Int32))), .val (.int (p4.toInt8.toInt32)), .val (.ref b1), .val (.int (own_r 4 (p3 &&& (3 : Int32)) (((p1 &&& (2147483647 : Int32)).toUInt32 >>> ((p2 &&& (31 : Int32)) &&& 31).toUInt32).toInt32))), .val (.int v158_5)] [(.int v158_5), (.int (p3 &&& (3 : Int32))), (.int (5 : Int32)), (.ref b1)]))
    refine go (fun _ k => XS.iload X20.here hx rfl (hb hby at_262) rfl  k) ?_
    show Go p e below _ (T20.setTop (mkF m 264 #[.val (.int p1), .val (.int p2), .val (.int p3), .val (.int p4), .val (.int (((p1 &&& (2147483647 : Int32)).toUInt32 >>> ((p2 &&& (31 : Int32)) &&& 31).toUInt32).toInt32)), .val (.int (p3 &&& (3 : Int32))), .val (.int (p4.toInt8.toInt32)), .val (.ref b1), .val (.int (own_r 4 (p3 &&& (3 : Int32)) (((p1 &&& (2147483647 : Int32)).toUInt32 >>> ((p2 &&& (31 : Int32)) &&& 31).toUInt32).toInt32))), .val (.int v158_5)] [(.int (((p1 &&& (2147483647 : Int32)).toUInt32 >>> ((p2 &&& (31 : Int32)) &&& 31).toUInt32).toInt32)), (.int v158_5), (.int (p3 &&& (3 : Int32))), (.int (5 : Int32)), (.ref b1)]))
    refine go (fun _ k => XS.iload X20.here hx rfl (hb hby at_264) rfl  k) ?_
    show Go p e below _ (T20.setTop (mkF m 266 #[.val (.int p1), .val (.int p2), .val (.int p3), .val (.int p4), .val (.int (((p1 &&& (2147483647 : Int32)).toUInt32 >>> ((p2 &&& (31 : Int32)) &&& 31).toUInt32).toInt32)), .val (.int (p3 &&& (3 : Int32))), .val (.int (p4.toInt8.toInt32)), .val (.ref b1), .val (.int (own_r 4 (p3 &&& (3 : Int32)) (((p1 &&& (2147483647 : Int32)).toUInt32 >>> ((p2 &&& (31 : Int32)) &&& 31).toUInt32).toInt32))), .val (.int v158_5)] [(.int (p4.toInt8.toInt32)), (.int (((p1 &&& (2147483647 : Int32)).toUInt32 >>> ((p2 &&& (31 : Int32)) &&& 31).toUInt32).toInt32)), (.int v158_5), (.int (p3 &&& (3 : Int32))), (.int (5 : Int32)), (.ref b1)]))
    obtain ⟨_, _, ⟨T21, L21, k21, n21⟩, -, X21, ⟨Lc21, hQ21, l21, y21, z21⟩, st21⟩ := Jvm.LawKit.callS X20 hx (y := (⟨"com/example/drienerlo/drienerlo/index/VarintWritePinLaw", "ok", "([BIIIIB)Z"⟩ : MethodName)) hown (mvT hZ (hw _ (List.mem_of_getElem? (i := 6) rfl))) (mvT hZ (hw _ (List.mem_of_getElem? (i := 7) rfl))) (mvT hZ (hw _ (List.mem_of_getElem? (i := 8) rfl))) (mvT hZ (hw _ (List.mem_of_getElem? (i := 9) rfl))) (by decide) (backOf (W := 0) (rm2 l Z a0 hw [] b1 (5 : Int32) (p3 &&& (3 : Int32)) v158_5 (((p1 &&& (2147483647 : Int32)).toUInt32 >>> ((p2 &&& (31 : Int32)) &&& 31).toUInt32).toInt32) (p4.toInt8.toInt32) k1 (own_w 4 (p3 &&& (3 : Int32)) (((p1 &&& (2147483647 : Int32)).toUInt32 >>> ((p2 &&& (31 : Int32)) &&& 31).toUInt32).toInt32) [(nar .byte (p4.toInt8.toInt32)), (nar .byte (p4.toInt8.toInt32)), (nar .byte (p4.toInt8.toInt32)), (nar .byte (p4.toInt8.toInt32)), (nar .byte (p4.toInt8.toInt32)), (nar .byte (p4.toInt8.toInt32)), (nar .byte (p4.toInt8.toInt32)), (nar .byte (p4.toInt8.toInt32)), (nar .byte (p4.toInt8.toInt32)), (nar .byte (p4.toInt8.toInt32))]) T12.heap n0 (Nat.le_trans Z0 K16.1) r12_1 (⟨by decide, by decide⟩ : ¬ (5 : Int32) < 0 ∧ (5 : Int32) < 10)) hZ (hw _ (List.mem_of_getElem? (i := 9) rfl)) (hw _ (List.mem_of_getElem? (i := 8) rfl)) (by decide) (by decide)) (g := (mkF m 266 #[.val (.int p1), .val (.int p2), .val (.int p3), .val (.int p4), .val (.int (((p1 &&& (2147483647 : Int32)).toUInt32 >>> ((p2 &&& (31 : Int32)) &&& 31).toUInt32).toInt32)), .val (.int (p3 &&& (3 : Int32))), .val (.int (p4.toInt8.toInt32)), .val (.ref b1), .val (.int (own_r 4 (p3 &&& (3 : Int32)) (((p1 &&& (2147483647 : Int32)).toUInt32 >>> ((p2 &&& (31 : Int32)) &&& 31).toUInt32).toInt32))), .val (.int v158_5)] [(.int (p4.toInt8.toInt32)), (.int (((p1 &&& (2147483647 : Int32)).toUInt32 >>> ((p2 &&& (31 : Int32)) &&& 31).toUInt32).toInt32)), (.int v158_5), (.int (p3 &&& (3 : Int32))), (.int (5 : Int32)), (.ref b1)])) rfl (by rw [hml]; rfl) (argsL := [(.ref b1), (.int (5 : Int32)), (.int (p3 &&& (3 : Int32))), (.int v158_5), (.int (((p1 &&& (2147483647 : Int32)).toUInt32 >>> ((p2 &&& (31 : Int32)) &&& 31).toUInt32).toInt32)), (.int (p4.toInt8.toInt32))]) (rest := []) (lenOf pd_1 rfl) rfl (by show 2 * 0 + _ ≤ _; exact Nat.le_of_eq rfl) (hb hby at_266) (fun _ _ => ⟨rfl, e20, (by decide : 1 + 0 ≤ _), (by decide : 10 + 0 ≤ _)⟩)
    dsimp only [Pt.U, Pt.locs, Pt.cells, Pt.slots] at X21 l21 y21 z21 st21 hQ21
    subst l21 y21 z21
    obtain ⟨rfl, N21q, e21⟩ := hQ21
    have N21 := Fr.app N20 N21q
    skip
    refine go st21 ?_
    show Go p e below _ (T21.setTop (mkF m 269 #[.val (.int p1), .val (.int p2), .val (.int p3), .val (.int p4), .val (.int (((p1 &&& (2147483647 : Int32)).toUInt32 >>> ((p2 &&& (31 : Int32)) &&& 31).toUInt32).toInt32)), .val (.int (p3 &&& (3 : Int32))), .val (.int (p4.toInt8.toInt32)), .val (.ref b1), .val (.int (own_r 4 (p3 &&& (3 : Int32)) (((p1 &&& (2147483647 : Int32)).toUInt32 >>> ((p2 &&& (31 : Int32)) &&& 31).toUInt32).toInt32))), .val (.int v158_5)] [(.int (bz ((own_w 4 (p3 &&& (3 : Int32)) (((p1 &&& (2147483647 : Int32)).toUInt32 >>> ((p2 &&& (31 : Int32)) &&& 31).toUInt32).toInt32) [(nar .byte (p4.toInt8.toInt32)), (nar .byte (p4.toInt8.toInt32)), (nar .byte (p4.toInt8.toInt32)), (nar .byte (p4.toInt8.toInt32)), (nar .byte (p4.toInt8.toInt32)), (nar .byte (p4.toInt8.toInt32)), (nar .byte (p4.toInt8.toInt32)), (nar .byte (p4.toInt8.toInt32)), (nar .byte (p4.toInt8.toInt32)), (nar .byte (p4.toInt8.toInt32))]).getD ((5 : Int32)).toNatClampNeg 0 = own_want (5 : Int32) (p3 &&& (3 : Int32)) v158_5 (((p1 &&& (2147483647 : Int32)).toUInt32 >>> ((p2 &&& (31 : Int32)) &&& 31).toUInt32).toInt32) (p4.toInt8.toInt32))))]))
    have hc269_12 : (own_w 4 (p3 &&& (3 : Int32)) (((p1 &&& (2147483647 : Int32)).toUInt32 >>> ((p2 &&& (31 : Int32)) &&& 31).toUInt32).toInt32) [(nar .byte (p4.toInt8.toInt32)), (nar .byte (p4.toInt8.toInt32)), (nar .byte (p4.toInt8.toInt32)), (nar .byte (p4.toInt8.toInt32)), (nar .byte (p4.toInt8.toInt32)), (nar .byte (p4.toInt8.toInt32)), (nar .byte (p4.toInt8.toInt32)), (nar .byte (p4.toInt8.toInt32)), (nar .byte (p4.toInt8.toInt32)), (nar .byte (p4.toInt8.toInt32))]).getD ((5 : Int32)).toNatClampNeg 0 = own_want (5 : Int32) (p3 &&& (3 : Int32)) v158_5 (((p1 &&& (2147483647 : Int32)).toUInt32 >>> ((p2 &&& (31 : Int32)) &&& 31).toUInt32).toInt32) (p4.toInt8.toInt32) := own_ok5 _ _ _ _ (own_nn0 p1 p2) (own_at4 p3) hv158_5
    refine go (fun _ k => XS.ifNo X21.here hx rfl (hb hby at_269) rfl ((if0 _ _).trans (feq (bz_ne hc269_12)).1) k) ?_
    show Go p e below _ (T21.setTop (mkF m 272 #[.val (.int p1), .val (.int p2), .val (.int p3), .val (.int p4), .val (.int (((p1 &&& (2147483647 : Int32)).toUInt32 >>> ((p2 &&& (31 : Int32)) &&& 31).toUInt32).toInt32)), .val (.int (p3 &&& (3 : Int32))), .val (.int (p4.toInt8.toInt32)), .val (.ref b1), .val (.int (own_r 4 (p3 &&& (3 : Int32)) (((p1 &&& (2147483647 : Int32)).toUInt32 >>> ((p2 &&& (31 : Int32)) &&& 31).toUInt32).toInt32))), .val (.int v158_5)] []))
    refine go (fun _ k => XS.aload X21.here hx rfl (hb hby at_272) rfl rfl  k) ?_
    show Go p e below _ (T21.setTop (mkF m 274 #[.val (.int p1), .val (.int p2), .val (.int p3), .val (.int p4), .val (.int (((p1 &&& (2147483647 : Int32)).toUInt32 >>> ((p2 &&& (31 : Int32)) &&& 31).toUInt32).toInt32)), .val (.int (p3 &&& (3 : Int32))), .val (.int (p4.toInt8.toInt32)), .val (.ref b1), .val (.int (own_r 4 (p3 &&& (3 : Int32)) (((p1 &&& (2147483647 : Int32)).toUInt32 >>> ((p2 &&& (31 : Int32)) &&& 31).toUInt32).toInt32))), .val (.int v158_5)] [(.ref b1)]))
    refine go (fun _ k => XS.bipush X21.here hx rfl (hb hby at_274) k) ?_
    show Go p e below _ (T21.setTop (mkF m 276 #[.val (.int p1), .val (.int p2), .val (.int p3), .val (.int p4), .val (.int (((p1 &&& (2147483647 : Int32)).toUInt32 >>> ((p2 &&& (31 : Int32)) &&& 31).toUInt32).toInt32)), .val (.int (p3 &&& (3 : Int32))), .val (.int (p4.toInt8.toInt32)), .val (.ref b1), .val (.int (own_r 4 (p3 &&& (3 : Int32)) (((p1 &&& (2147483647 : Int32)).toUInt32 >>> ((p2 &&& (31 : Int32)) &&& 31).toUInt32).toInt32))), .val (.int v158_5)] [(.int (6 : Int32)), (.ref b1)]))
    refine go (fun _ k => XS.iload X21.here hx rfl (hb hby at_276) rfl  k) ?_
    show Go p e below _ (T21.setTop (mkF m 278 #[.val (.int p1), .val (.int p2), .val (.int p3), .val (.int p4), .val (.int (((p1 &&& (2147483647 : Int32)).toUInt32 >>> ((p2 &&& (31 : Int32)) &&& 31).toUInt32).toInt32)), .val (.int (p3 &&& (3 : Int32))), .val (.int (p4.toInt8.toInt32)), .val (.ref b1), .val (.int (own_r 4 (p3 &&& (3 : Int32)) (((p1 &&& (2147483647 : Int32)).toUInt32 >>> ((p2 &&& (31 : Int32)) &&& 31).toUInt32).toInt32))), .val (.int v158_5)] [(.int (p3 &&& (3 : Int32))), (.int (6 : Int32)), (.ref b1)]))
    refine go (fun _ k => XS.iload X21.here hx rfl (hb hby at_278) rfl  k) ?_
    show Go p e below _ (T21.setTop (mkF m 280 #[.val (.int p1), .val (.int p2), .val (.int p3), .val (.int p4), .val (.int (((p1 &&& (2147483647 : Int32)).toUInt32 >>> ((p2 &&& (31 : Int32)) &&& 31).toUInt32).toInt32)), .val (.int (p3 &&& (3 : Int32))), .val (.int (p4.toInt8.toInt32)), .val (.ref b1), .val (.int (own_r 4 (p3 &&& (3 : Int32)) (((p1 &&& (2147483647 : Int32)).toUInt32 >>> ((p2 &&& (31 : Int32)) &&& 31).toUInt32).toInt32))), .val (.int v158_5)] [(.int v158_5), (.int (p3 &&& (3 : Int32))), (.int (6 : Int32)), (.ref b1)]))
    refine go (fun _ k => XS.iload X21.here hx rfl (hb hby at_280) rfl  k) ?_
    show Go p e below _ (T21.setTop (mkF m 282 #[.val (.int p1), .val (.int p2), .val (.int p3), .val (.int p4), .val (.int (((p1 &&& (2147483647 : Int32)).toUInt32 >>> ((p2 &&& (31 : Int32)) &&& 31).toUInt32).toInt32)), .val (.int (p3 &&& (3 : Int32))), .val (.int (p4.toInt8.toInt32)), .val (.ref b1), .val (.int (own_r 4 (p3 &&& (3 : Int32)) (((p1 &&& (2147483647 : Int32)).toUInt32 >>> ((p2 &&& (31 : Int32)) &&& 31).toUInt32).toInt32))), .val (.int v158_5)] [(.int (((p1 &&& (2147483647 : Int32)).toUInt32 >>> ((p2 &&& (31 : Int32)) &&& 31).toUInt32).toInt32)), (.int v158_5), (.int (p3 &&& (3 : Int32))), (.int (6 : Int32)), (.ref b1)]))
    refine go (fun _ k => XS.iload X21.here hx rfl (hb hby at_282) rfl  k) ?_
    show Go p e below _ (T21.setTop (mkF m 284 #[.val (.int p1), .val (.int p2), .val (.int p3), .val (.int p4), .val (.int (((p1 &&& (2147483647 : Int32)).toUInt32 >>> ((p2 &&& (31 : Int32)) &&& 31).toUInt32).toInt32)), .val (.int (p3 &&& (3 : Int32))), .val (.int (p4.toInt8.toInt32)), .val (.ref b1), .val (.int (own_r 4 (p3 &&& (3 : Int32)) (((p1 &&& (2147483647 : Int32)).toUInt32 >>> ((p2 &&& (31 : Int32)) &&& 31).toUInt32).toInt32))), .val (.int v158_5)] [(.int (p4.toInt8.toInt32)), (.int (((p1 &&& (2147483647 : Int32)).toUInt32 >>> ((p2 &&& (31 : Int32)) &&& 31).toUInt32).toInt32)), (.int v158_5), (.int (p3 &&& (3 : Int32))), (.int (6 : Int32)), (.ref b1)]))
    obtain ⟨_, _, ⟨T22, L22, k22, n22⟩, -, X22, ⟨Lc22, hQ22, l22, y22, z22⟩, st22⟩ := Jvm.LawKit.callS X21 hx (y := (⟨"com/example/drienerlo/drienerlo/index/VarintWritePinLaw", "ok", "([BIIIIB)Z"⟩ : MethodName)) hown (mvT hZ (hw _ (List.mem_of_getElem? (i := 6) rfl))) (mvT hZ (hw _ (List.mem_of_getElem? (i := 7) rfl))) (mvT hZ (hw _ (List.mem_of_getElem? (i := 8) rfl))) (mvT hZ (hw _ (List.mem_of_getElem? (i := 9) rfl))) (by decide) (backOf (W := 0) (rm2 l Z a0 hw [] b1 (6 : Int32) (p3 &&& (3 : Int32)) v158_5 (((p1 &&& (2147483647 : Int32)).toUInt32 >>> ((p2 &&& (31 : Int32)) &&& 31).toUInt32).toInt32) (p4.toInt8.toInt32) k1 (own_w 4 (p3 &&& (3 : Int32)) (((p1 &&& (2147483647 : Int32)).toUInt32 >>> ((p2 &&& (31 : Int32)) &&& 31).toUInt32).toInt32) [(nar .byte (p4.toInt8.toInt32)), (nar .byte (p4.toInt8.toInt32)), (nar .byte (p4.toInt8.toInt32)), (nar .byte (p4.toInt8.toInt32)), (nar .byte (p4.toInt8.toInt32)), (nar .byte (p4.toInt8.toInt32)), (nar .byte (p4.toInt8.toInt32)), (nar .byte (p4.toInt8.toInt32)), (nar .byte (p4.toInt8.toInt32)), (nar .byte (p4.toInt8.toInt32))]) T12.heap n0 (Nat.le_trans Z0 K16.1) r12_1 (⟨by decide, by decide⟩ : ¬ (6 : Int32) < 0 ∧ (6 : Int32) < 10)) hZ (hw _ (List.mem_of_getElem? (i := 9) rfl)) (hw _ (List.mem_of_getElem? (i := 8) rfl)) (by decide) (by decide)) (g := (mkF m 284 #[.val (.int p1), .val (.int p2), .val (.int p3), .val (.int p4), .val (.int (((p1 &&& (2147483647 : Int32)).toUInt32 >>> ((p2 &&& (31 : Int32)) &&& 31).toUInt32).toInt32)), .val (.int (p3 &&& (3 : Int32))), .val (.int (p4.toInt8.toInt32)), .val (.ref b1), .val (.int (own_r 4 (p3 &&& (3 : Int32)) (((p1 &&& (2147483647 : Int32)).toUInt32 >>> ((p2 &&& (31 : Int32)) &&& 31).toUInt32).toInt32))), .val (.int v158_5)] [(.int (p4.toInt8.toInt32)), (.int (((p1 &&& (2147483647 : Int32)).toUInt32 >>> ((p2 &&& (31 : Int32)) &&& 31).toUInt32).toInt32)), (.int v158_5), (.int (p3 &&& (3 : Int32))), (.int (6 : Int32)), (.ref b1)])) rfl (by rw [hml]; rfl) (argsL := [(.ref b1), (.int (6 : Int32)), (.int (p3 &&& (3 : Int32))), (.int v158_5), (.int (((p1 &&& (2147483647 : Int32)).toUInt32 >>> ((p2 &&& (31 : Int32)) &&& 31).toUInt32).toInt32)), (.int (p4.toInt8.toInt32))]) (rest := []) (lenOf pd_1 rfl) rfl (by show 2 * 0 + _ ≤ _; exact Nat.le_of_eq rfl) (hb hby at_284) (fun _ _ => ⟨rfl, e21, (by decide : 1 + 0 ≤ _), (by decide : 10 + 0 ≤ _)⟩)
    dsimp only [Pt.U, Pt.locs, Pt.cells, Pt.slots] at X22 l22 y22 z22 st22 hQ22
    subst l22 y22 z22
    obtain ⟨rfl, N22q, e22⟩ := hQ22
    have N22 := Fr.app N21 N22q
    skip
    refine go st22 ?_
    show Go p e below _ (T22.setTop (mkF m 287 #[.val (.int p1), .val (.int p2), .val (.int p3), .val (.int p4), .val (.int (((p1 &&& (2147483647 : Int32)).toUInt32 >>> ((p2 &&& (31 : Int32)) &&& 31).toUInt32).toInt32)), .val (.int (p3 &&& (3 : Int32))), .val (.int (p4.toInt8.toInt32)), .val (.ref b1), .val (.int (own_r 4 (p3 &&& (3 : Int32)) (((p1 &&& (2147483647 : Int32)).toUInt32 >>> ((p2 &&& (31 : Int32)) &&& 31).toUInt32).toInt32))), .val (.int v158_5)] [(.int (bz ((own_w 4 (p3 &&& (3 : Int32)) (((p1 &&& (2147483647 : Int32)).toUInt32 >>> ((p2 &&& (31 : Int32)) &&& 31).toUInt32).toInt32) [(nar .byte (p4.toInt8.toInt32)), (nar .byte (p4.toInt8.toInt32)), (nar .byte (p4.toInt8.toInt32)), (nar .byte (p4.toInt8.toInt32)), (nar .byte (p4.toInt8.toInt32)), (nar .byte (p4.toInt8.toInt32)), (nar .byte (p4.toInt8.toInt32)), (nar .byte (p4.toInt8.toInt32)), (nar .byte (p4.toInt8.toInt32)), (nar .byte (p4.toInt8.toInt32))]).getD ((6 : Int32)).toNatClampNeg 0 = own_want (6 : Int32) (p3 &&& (3 : Int32)) v158_5 (((p1 &&& (2147483647 : Int32)).toUInt32 >>> ((p2 &&& (31 : Int32)) &&& 31).toUInt32).toInt32) (p4.toInt8.toInt32))))]))
    have hc287_13 : (own_w 4 (p3 &&& (3 : Int32)) (((p1 &&& (2147483647 : Int32)).toUInt32 >>> ((p2 &&& (31 : Int32)) &&& 31).toUInt32).toInt32) [(nar .byte (p4.toInt8.toInt32)), (nar .byte (p4.toInt8.toInt32)), (nar .byte (p4.toInt8.toInt32)), (nar .byte (p4.toInt8.toInt32)), (nar .byte (p4.toInt8.toInt32)), (nar .byte (p4.toInt8.toInt32)), (nar .byte (p4.toInt8.toInt32)), (nar .byte (p4.toInt8.toInt32)), (nar .byte (p4.toInt8.toInt32)), (nar .byte (p4.toInt8.toInt32))]).getD ((6 : Int32)).toNatClampNeg 0 = own_want (6 : Int32) (p3 &&& (3 : Int32)) v158_5 (((p1 &&& (2147483647 : Int32)).toUInt32 >>> ((p2 &&& (31 : Int32)) &&& 31).toUInt32).toInt32) (p4.toInt8.toInt32) := own_ok6 _ _ _ _ (own_nn0 p1 p2) (own_at4 p3) hv158_5
    refine go (fun _ k => XS.ifNo X22.here hx rfl (hb hby at_287) rfl ((if0 _ _).trans (feq (bz_ne hc287_13)).1) k) ?_
    show Go p e below _ (T22.setTop (mkF m 290 #[.val (.int p1), .val (.int p2), .val (.int p3), .val (.int p4), .val (.int (((p1 &&& (2147483647 : Int32)).toUInt32 >>> ((p2 &&& (31 : Int32)) &&& 31).toUInt32).toInt32)), .val (.int (p3 &&& (3 : Int32))), .val (.int (p4.toInt8.toInt32)), .val (.ref b1), .val (.int (own_r 4 (p3 &&& (3 : Int32)) (((p1 &&& (2147483647 : Int32)).toUInt32 >>> ((p2 &&& (31 : Int32)) &&& 31).toUInt32).toInt32))), .val (.int v158_5)] []))
    refine go (fun _ k => XS.aload X22.here hx rfl (hb hby at_290) rfl rfl  k) ?_
    show Go p e below _ (T22.setTop (mkF m 292 #[.val (.int p1), .val (.int p2), .val (.int p3), .val (.int p4), .val (.int (((p1 &&& (2147483647 : Int32)).toUInt32 >>> ((p2 &&& (31 : Int32)) &&& 31).toUInt32).toInt32)), .val (.int (p3 &&& (3 : Int32))), .val (.int (p4.toInt8.toInt32)), .val (.ref b1), .val (.int (own_r 4 (p3 &&& (3 : Int32)) (((p1 &&& (2147483647 : Int32)).toUInt32 >>> ((p2 &&& (31 : Int32)) &&& 31).toUInt32).toInt32))), .val (.int v158_5)] [(.ref b1)]))
    refine go (fun _ k => XS.bipush X22.here hx rfl (hb hby at_292) k) ?_
    show Go p e below _ (T22.setTop (mkF m 294 #[.val (.int p1), .val (.int p2), .val (.int p3), .val (.int p4), .val (.int (((p1 &&& (2147483647 : Int32)).toUInt32 >>> ((p2 &&& (31 : Int32)) &&& 31).toUInt32).toInt32)), .val (.int (p3 &&& (3 : Int32))), .val (.int (p4.toInt8.toInt32)), .val (.ref b1), .val (.int (own_r 4 (p3 &&& (3 : Int32)) (((p1 &&& (2147483647 : Int32)).toUInt32 >>> ((p2 &&& (31 : Int32)) &&& 31).toUInt32).toInt32))), .val (.int v158_5)] [(.int (7 : Int32)), (.ref b1)]))
    refine go (fun _ k => XS.iload X22.here hx rfl (hb hby at_294) rfl  k) ?_
    show Go p e below _ (T22.setTop (mkF m 296 #[.val (.int p1), .val (.int p2), .val (.int p3), .val (.int p4), .val (.int (((p1 &&& (2147483647 : Int32)).toUInt32 >>> ((p2 &&& (31 : Int32)) &&& 31).toUInt32).toInt32)), .val (.int (p3 &&& (3 : Int32))), .val (.int (p4.toInt8.toInt32)), .val (.ref b1), .val (.int (own_r 4 (p3 &&& (3 : Int32)) (((p1 &&& (2147483647 : Int32)).toUInt32 >>> ((p2 &&& (31 : Int32)) &&& 31).toUInt32).toInt32))), .val (.int v158_5)] [(.int (p3 &&& (3 : Int32))), (.int (7 : Int32)), (.ref b1)]))
    refine go (fun _ k => XS.iload X22.here hx rfl (hb hby at_296) rfl  k) ?_
    show Go p e below _ (T22.setTop (mkF m 298 #[.val (.int p1), .val (.int p2), .val (.int p3), .val (.int p4), .val (.int (((p1 &&& (2147483647 : Int32)).toUInt32 >>> ((p2 &&& (31 : Int32)) &&& 31).toUInt32).toInt32)), .val (.int (p3 &&& (3 : Int32))), .val (.int (p4.toInt8.toInt32)), .val (.ref b1), .val (.int (own_r 4 (p3 &&& (3 : Int32)) (((p1 &&& (2147483647 : Int32)).toUInt32 >>> ((p2 &&& (31 : Int32)) &&& 31).toUInt32).toInt32))), .val (.int v158_5)] [(.int v158_5), (.int (p3 &&& (3 : Int32))), (.int (7 : Int32)), (.ref b1)]))
    refine go (fun _ k => XS.iload X22.here hx rfl (hb hby at_298) rfl  k) ?_
    show Go p e below _ (T22.setTop (mkF m 300 #[.val (.int p1), .val (.int p2), .val (.int p3), .val (.int p4), .val (.int (((p1 &&& (2147483647 : Int32)).toUInt32 >>> ((p2 &&& (31 : Int32)) &&& 31).toUInt32).toInt32)), .val (.int (p3 &&& (3 : Int32))), .val (.int (p4.toInt8.toInt32)), .val (.ref b1), .val (.int (own_r 4 (p3 &&& (3 : Int32)) (((p1 &&& (2147483647 : Int32)).toUInt32 >>> ((p2 &&& (31 : Int32)) &&& 31).toUInt32).toInt32))), .val (.int v158_5)] [(.int (((p1 &&& (2147483647 : Int32)).toUInt32 >>> ((p2 &&& (31 : Int32)) &&& 31).toUInt32).toInt32)), (.int v158_5), (.int (p3 &&& (3 : Int32))), (.int (7 : Int32)), (.ref b1)]))
    refine go (fun _ k => XS.iload X22.here hx rfl (hb hby at_300) rfl  k) ?_
    show Go p e below _ (T22.setTop (mkF m 302 #[.val (.int p1), .val (.int p2), .val (.int p3), .val (.int p4), .val (.int (((p1 &&& (2147483647 : Int32)).toUInt32 >>> ((p2 &&& (31 : Int32)) &&& 31).toUInt32).toInt32)), .val (.int (p3 &&& (3 : Int32))), .val (.int (p4.toInt8.toInt32)), .val (.ref b1), .val (.int (own_r 4 (p3 &&& (3 : Int32)) (((p1 &&& (2147483647 : Int32)).toUInt32 >>> ((p2 &&& (31 : Int32)) &&& 31).toUInt32).toInt32))), .val (.int v158_5)] [(.int (p4.toInt8.toInt32)), (.int (((p1 &&& (2147483647 : Int32)).toUInt32 >>> ((p2 &&& (31 : Int32)) &&& 31).toUInt32).toInt32)), (.int v158_5), (.int (p3 &&& (3 : Int32))), (.int (7 : Int32)), (.ref b1)]))
    obtain ⟨_, _, ⟨T23, L23, k23, n23⟩, -, X23, ⟨Lc23, hQ23, l23, y23, z23⟩, st23⟩ := Jvm.LawKit.callS X22 hx (y := (⟨"com/example/drienerlo/drienerlo/index/VarintWritePinLaw", "ok", "([BIIIIB)Z"⟩ : MethodName)) hown (mvT hZ (hw _ (List.mem_of_getElem? (i := 6) rfl))) (mvT hZ (hw _ (List.mem_of_getElem? (i := 7) rfl))) (mvT hZ (hw _ (List.mem_of_getElem? (i := 8) rfl))) (mvT hZ (hw _ (List.mem_of_getElem? (i := 9) rfl))) (by decide) (backOf (W := 0) (rm2 l Z a0 hw [] b1 (7 : Int32) (p3 &&& (3 : Int32)) v158_5 (((p1 &&& (2147483647 : Int32)).toUInt32 >>> ((p2 &&& (31 : Int32)) &&& 31).toUInt32).toInt32) (p4.toInt8.toInt32) k1 (own_w 4 (p3 &&& (3 : Int32)) (((p1 &&& (2147483647 : Int32)).toUInt32 >>> ((p2 &&& (31 : Int32)) &&& 31).toUInt32).toInt32) [(nar .byte (p4.toInt8.toInt32)), (nar .byte (p4.toInt8.toInt32)), (nar .byte (p4.toInt8.toInt32)), (nar .byte (p4.toInt8.toInt32)), (nar .byte (p4.toInt8.toInt32)), (nar .byte (p4.toInt8.toInt32)), (nar .byte (p4.toInt8.toInt32)), (nar .byte (p4.toInt8.toInt32)), (nar .byte (p4.toInt8.toInt32)), (nar .byte (p4.toInt8.toInt32))]) T12.heap n0 (Nat.le_trans Z0 K16.1) r12_1 (⟨by decide, by decide⟩ : ¬ (7 : Int32) < 0 ∧ (7 : Int32) < 10)) hZ (hw _ (List.mem_of_getElem? (i := 9) rfl)) (hw _ (List.mem_of_getElem? (i := 8) rfl)) (by decide) (by decide)) (g := (mkF m 302 #[.val (.int p1), .val (.int p2), .val (.int p3), .val (.int p4), .val (.int (((p1 &&& (2147483647 : Int32)).toUInt32 >>> ((p2 &&& (31 : Int32)) &&& 31).toUInt32).toInt32)), .val (.int (p3 &&& (3 : Int32))), .val (.int (p4.toInt8.toInt32)), .val (.ref b1), .val (.int (own_r 4 (p3 &&& (3 : Int32)) (((p1 &&& (2147483647 : Int32)).toUInt32 >>> ((p2 &&& (31 : Int32)) &&& 31).toUInt32).toInt32))), .val (.int v158_5)] [(.int (p4.toInt8.toInt32)), (.int (((p1 &&& (2147483647 : Int32)).toUInt32 >>> ((p2 &&& (31 : Int32)) &&& 31).toUInt32).toInt32)), (.int v158_5), (.int (p3 &&& (3 : Int32))), (.int (7 : Int32)), (.ref b1)])) rfl (by rw [hml]; rfl) (argsL := [(.ref b1), (.int (7 : Int32)), (.int (p3 &&& (3 : Int32))), (.int v158_5), (.int (((p1 &&& (2147483647 : Int32)).toUInt32 >>> ((p2 &&& (31 : Int32)) &&& 31).toUInt32).toInt32)), (.int (p4.toInt8.toInt32))]) (rest := []) (lenOf pd_1 rfl) rfl (by show 2 * 0 + _ ≤ _; exact Nat.le_of_eq rfl) (hb hby at_302) (fun _ _ => ⟨rfl, e22, (by decide : 1 + 0 ≤ _), (by decide : 10 + 0 ≤ _)⟩)
    dsimp only [Pt.U, Pt.locs, Pt.cells, Pt.slots] at X23 l23 y23 z23 st23 hQ23
    subst l23 y23 z23
    obtain ⟨rfl, N23q, e23⟩ := hQ23
    have N23 := Fr.app N22 N23q
    skip
    refine go st23 ?_
    show Go p e below _ (T23.setTop (mkF m 305 #[.val (.int p1), .val (.int p2), .val (.int p3), .val (.int p4), .val (.int (((p1 &&& (2147483647 : Int32)).toUInt32 >>> ((p2 &&& (31 : Int32)) &&& 31).toUInt32).toInt32)), .val (.int (p3 &&& (3 : Int32))), .val (.int (p4.toInt8.toInt32)), .val (.ref b1), .val (.int (own_r 4 (p3 &&& (3 : Int32)) (((p1 &&& (2147483647 : Int32)).toUInt32 >>> ((p2 &&& (31 : Int32)) &&& 31).toUInt32).toInt32))), .val (.int v158_5)] [(.int (bz ((own_w 4 (p3 &&& (3 : Int32)) (((p1 &&& (2147483647 : Int32)).toUInt32 >>> ((p2 &&& (31 : Int32)) &&& 31).toUInt32).toInt32) [(nar .byte (p4.toInt8.toInt32)), (nar .byte (p4.toInt8.toInt32)), (nar .byte (p4.toInt8.toInt32)), (nar .byte (p4.toInt8.toInt32)), (nar .byte (p4.toInt8.toInt32)), (nar .byte (p4.toInt8.toInt32)), (nar .byte (p4.toInt8.toInt32)), (nar .byte (p4.toInt8.toInt32)), (nar .byte (p4.toInt8.toInt32)), (nar .byte (p4.toInt8.toInt32))]).getD ((7 : Int32)).toNatClampNeg 0 = own_want (7 : Int32) (p3 &&& (3 : Int32)) v158_5 (((p1 &&& (2147483647 : Int32)).toUInt32 >>> ((p2 &&& (31 : Int32)) &&& 31).toUInt32).toInt32) (p4.toInt8.toInt32))))]))
    have hc305_14 : (own_w 4 (p3 &&& (3 : Int32)) (((p1 &&& (2147483647 : Int32)).toUInt32 >>> ((p2 &&& (31 : Int32)) &&& 31).toUInt32).toInt32) [(nar .byte (p4.toInt8.toInt32)), (nar .byte (p4.toInt8.toInt32)), (nar .byte (p4.toInt8.toInt32)), (nar .byte (p4.toInt8.toInt32)), (nar .byte (p4.toInt8.toInt32)), (nar .byte (p4.toInt8.toInt32)), (nar .byte (p4.toInt8.toInt32)), (nar .byte (p4.toInt8.toInt32)), (nar .byte (p4.toInt8.toInt32)), (nar .byte (p4.toInt8.toInt32))]).getD ((7 : Int32)).toNatClampNeg 0 = own_want (7 : Int32) (p3 &&& (3 : Int32)) v158_5 (((p1 &&& (2147483647 : Int32)).toUInt32 >>> ((p2 &&& (31 : Int32)) &&& 31).toUInt32).toInt32) (p4.toInt8.toInt32) := own_ok7 _ _ _ _ (own_nn0 p1 p2) (own_at4 p3) hv158_5
    refine go (fun _ k => XS.ifNo X23.here hx rfl (hb hby at_305) rfl ((if0 _ _).trans (feq (bz_ne hc305_14)).1) k) ?_
    show Go p e below _ (T23.setTop (mkF m 308 #[.val (.int p1), .val (.int p2), .val (.int p3), .val (.int p4), .val (.int (((p1 &&& (2147483647 : Int32)).toUInt32 >>> ((p2 &&& (31 : Int32)) &&& 31).toUInt32).toInt32)), .val (.int (p3 &&& (3 : Int32))), .val (.int (p4.toInt8.toInt32)), .val (.ref b1), .val (.int (own_r 4 (p3 &&& (3 : Int32)) (((p1 &&& (2147483647 : Int32)).toUInt32 >>> ((p2 &&& (31 : Int32)) &&& 31).toUInt32).toInt32))), .val (.int v158_5)] []))
    refine go (fun _ k => XS.aload X23.here hx rfl (hb hby at_308) rfl rfl  k) ?_
    show Go p e below _ (T23.setTop (mkF m 310 #[.val (.int p1), .val (.int p2), .val (.int p3), .val (.int p4), .val (.int (((p1 &&& (2147483647 : Int32)).toUInt32 >>> ((p2 &&& (31 : Int32)) &&& 31).toUInt32).toInt32)), .val (.int (p3 &&& (3 : Int32))), .val (.int (p4.toInt8.toInt32)), .val (.ref b1), .val (.int (own_r 4 (p3 &&& (3 : Int32)) (((p1 &&& (2147483647 : Int32)).toUInt32 >>> ((p2 &&& (31 : Int32)) &&& 31).toUInt32).toInt32))), .val (.int v158_5)] [(.ref b1)]))
    refine go (fun _ k => XS.bipush X23.here hx rfl (hb hby at_310) k) ?_
    show Go p e below _ (T23.setTop (mkF m 312 #[.val (.int p1), .val (.int p2), .val (.int p3), .val (.int p4), .val (.int (((p1 &&& (2147483647 : Int32)).toUInt32 >>> ((p2 &&& (31 : Int32)) &&& 31).toUInt32).toInt32)), .val (.int (p3 &&& (3 : Int32))), .val (.int (p4.toInt8.toInt32)), .val (.ref b1), .val (.int (own_r 4 (p3 &&& (3 : Int32)) (((p1 &&& (2147483647 : Int32)).toUInt32 >>> ((p2 &&& (31 : Int32)) &&& 31).toUInt32).toInt32))), .val (.int v158_5)] [(.int (8 : Int32)), (.ref b1)]))
    refine go (fun _ k => XS.iload X23.here hx rfl (hb hby at_312) rfl  k) ?_
    show Go p e below _ (T23.setTop (mkF m 314 #[.val (.int p1), .val (.int p2), .val (.int p3), .val (.int p4), .val (.int (((p1 &&& (2147483647 : Int32)).toUInt32 >>> ((p2 &&& (31 : Int32)) &&& 31).toUInt32).toInt32)), .val (.int (p3 &&& (3 : Int32))), .val (.int (p4.toInt8.toInt32)), .val (.ref b1), .val (.int (own_r 4 (p3 &&& (3 : Int32)) (((p1 &&& (2147483647 : Int32)).toUInt32 >>> ((p2 &&& (31 : Int32)) &&& 31).toUInt32).toInt32))), .val (.int v158_5)] [(.int (p3 &&& (3 : Int32))), (.int (8 : Int32)), (.ref b1)]))
    refine go (fun _ k => XS.iload X23.here hx rfl (hb hby at_314) rfl  k) ?_
    show Go p e below _ (T23.setTop (mkF m 316 #[.val (.int p1), .val (.int p2), .val (.int p3), .val (.int p4), .val (.int (((p1 &&& (2147483647 : Int32)).toUInt32 >>> ((p2 &&& (31 : Int32)) &&& 31).toUInt32).toInt32)), .val (.int (p3 &&& (3 : Int32))), .val (.int (p4.toInt8.toInt32)), .val (.ref b1), .val (.int (own_r 4 (p3 &&& (3 : Int32)) (((p1 &&& (2147483647 : Int32)).toUInt32 >>> ((p2 &&& (31 : Int32)) &&& 31).toUInt32).toInt32))), .val (.int v158_5)] [(.int v158_5), (.int (p3 &&& (3 : Int32))), (.int (8 : Int32)), (.ref b1)]))
    refine go (fun _ k => XS.iload X23.here hx rfl (hb hby at_316) rfl  k) ?_
    show Go p e below _ (T23.setTop (mkF m 318 #[.val (.int p1), .val (.int p2), .val (.int p3), .val (.int p4), .val (.int (((p1 &&& (2147483647 : Int32)).toUInt32 >>> ((p2 &&& (31 : Int32)) &&& 31).toUInt32).toInt32)), .val (.int (p3 &&& (3 : Int32))), .val (.int (p4.toInt8.toInt32)), .val (.ref b1), .val (.int (own_r 4 (p3 &&& (3 : Int32)) (((p1 &&& (2147483647 : Int32)).toUInt32 >>> ((p2 &&& (31 : Int32)) &&& 31).toUInt32).toInt32))), .val (.int v158_5)] [(.int (((p1 &&& (2147483647 : Int32)).toUInt32 >>> ((p2 &&& (31 : Int32)) &&& 31).toUInt32).toInt32)), (.int v158_5), (.int (p3 &&& (3 : Int32))), (.int (8 : Int32)), (.ref b1)]))
    refine go (fun _ k => XS.iload X23.here hx rfl (hb hby at_318) rfl  k) ?_
    show Go p e below _ (T23.setTop (mkF m 320 #[.val (.int p1), .val (.int p2), .val (.int p3), .val (.int p4), .val (.int (((p1 &&& (2147483647 : Int32)).toUInt32 >>> ((p2 &&& (31 : Int32)) &&& 31).toUInt32).toInt32)), .val (.int (p3 &&& (3 : Int32))), .val (.int (p4.toInt8.toInt32)), .val (.ref b1), .val (.int (own_r 4 (p3 &&& (3 : Int32)) (((p1 &&& (2147483647 : Int32)).toUInt32 >>> ((p2 &&& (31 : Int32)) &&& 31).toUInt32).toInt32))), .val (.int v158_5)] [(.int (p4.toInt8.toInt32)), (.int (((p1 &&& (2147483647 : Int32)).toUInt32 >>> ((p2 &&& (31 : Int32)) &&& 31).toUInt32).toInt32)), (.int v158_5), (.int (p3 &&& (3 : Int32))), (.int (8 : Int32)), (.ref b1)]))
    obtain ⟨_, _, ⟨T24, L24, k24, n24⟩, -, X24, ⟨Lc24, hQ24, l24, y24, z24⟩, st24⟩ := Jvm.LawKit.callS X23 hx (y := (⟨"com/example/drienerlo/drienerlo/index/VarintWritePinLaw", "ok", "([BIIIIB)Z"⟩ : MethodName)) hown (mvT hZ (hw _ (List.mem_of_getElem? (i := 6) rfl))) (mvT hZ (hw _ (List.mem_of_getElem? (i := 7) rfl))) (mvT hZ (hw _ (List.mem_of_getElem? (i := 8) rfl))) (mvT hZ (hw _ (List.mem_of_getElem? (i := 9) rfl))) (by decide) (backOf (W := 0) (rm2 l Z a0 hw [] b1 (8 : Int32) (p3 &&& (3 : Int32)) v158_5 (((p1 &&& (2147483647 : Int32)).toUInt32 >>> ((p2 &&& (31 : Int32)) &&& 31).toUInt32).toInt32) (p4.toInt8.toInt32) k1 (own_w 4 (p3 &&& (3 : Int32)) (((p1 &&& (2147483647 : Int32)).toUInt32 >>> ((p2 &&& (31 : Int32)) &&& 31).toUInt32).toInt32) [(nar .byte (p4.toInt8.toInt32)), (nar .byte (p4.toInt8.toInt32)), (nar .byte (p4.toInt8.toInt32)), (nar .byte (p4.toInt8.toInt32)), (nar .byte (p4.toInt8.toInt32)), (nar .byte (p4.toInt8.toInt32)), (nar .byte (p4.toInt8.toInt32)), (nar .byte (p4.toInt8.toInt32)), (nar .byte (p4.toInt8.toInt32)), (nar .byte (p4.toInt8.toInt32))]) T12.heap n0 (Nat.le_trans Z0 K16.1) r12_1 (⟨by decide, by decide⟩ : ¬ (8 : Int32) < 0 ∧ (8 : Int32) < 10)) hZ (hw _ (List.mem_of_getElem? (i := 9) rfl)) (hw _ (List.mem_of_getElem? (i := 8) rfl)) (by decide) (by decide)) (g := (mkF m 320 #[.val (.int p1), .val (.int p2), .val (.int p3), .val (.int p4), .val (.int (((p1 &&& (2147483647 : Int32)).toUInt32 >>> ((p2 &&& (31 : Int32)) &&& 31).toUInt32).toInt32)), .val (.int (p3 &&& (3 : Int32))), .val (.int (p4.toInt8.toInt32)), .val (.ref b1), .val (.int (own_r 4 (p3 &&& (3 : Int32)) (((p1 &&& (2147483647 : Int32)).toUInt32 >>> ((p2 &&& (31 : Int32)) &&& 31).toUInt32).toInt32))), .val (.int v158_5)] [(.int (p4.toInt8.toInt32)), (.int (((p1 &&& (2147483647 : Int32)).toUInt32 >>> ((p2 &&& (31 : Int32)) &&& 31).toUInt32).toInt32)), (.int v158_5), (.int (p3 &&& (3 : Int32))), (.int (8 : Int32)), (.ref b1)])) rfl (by rw [hml]; rfl) (argsL := [(.ref b1), (.int (8 : Int32)), (.int (p3 &&& (3 : Int32))), (.int v158_5), (.int (((p1 &&& (2147483647 : Int32)).toUInt32 >>> ((p2 &&& (31 : Int32)) &&& 31).toUInt32).toInt32)), (.int (p4.toInt8.toInt32))]) (rest := []) (lenOf pd_1 rfl) rfl (by show 2 * 0 + _ ≤ _; exact Nat.le_of_eq rfl) (hb hby at_320) (fun _ _ => ⟨rfl, e23, (by decide : 1 + 0 ≤ _), (by decide : 10 + 0 ≤ _)⟩)
    dsimp only [Pt.U, Pt.locs, Pt.cells, Pt.slots] at X24 l24 y24 z24 st24 hQ24
    subst l24 y24 z24
    obtain ⟨rfl, N24q, e24⟩ := hQ24
    have N24 := Fr.app N23 N24q
    skip
    refine go st24 ?_
    show Go p e below _ (T24.setTop (mkF m 323 #[.val (.int p1), .val (.int p2), .val (.int p3), .val (.int p4), .val (.int (((p1 &&& (2147483647 : Int32)).toUInt32 >>> ((p2 &&& (31 : Int32)) &&& 31).toUInt32).toInt32)), .val (.int (p3 &&& (3 : Int32))), .val (.int (p4.toInt8.toInt32)), .val (.ref b1), .val (.int (own_r 4 (p3 &&& (3 : Int32)) (((p1 &&& (2147483647 : Int32)).toUInt32 >>> ((p2 &&& (31 : Int32)) &&& 31).toUInt32).toInt32))), .val (.int v158_5)] [(.int (bz ((own_w 4 (p3 &&& (3 : Int32)) (((p1 &&& (2147483647 : Int32)).toUInt32 >>> ((p2 &&& (31 : Int32)) &&& 31).toUInt32).toInt32) [(nar .byte (p4.toInt8.toInt32)), (nar .byte (p4.toInt8.toInt32)), (nar .byte (p4.toInt8.toInt32)), (nar .byte (p4.toInt8.toInt32)), (nar .byte (p4.toInt8.toInt32)), (nar .byte (p4.toInt8.toInt32)), (nar .byte (p4.toInt8.toInt32)), (nar .byte (p4.toInt8.toInt32)), (nar .byte (p4.toInt8.toInt32)), (nar .byte (p4.toInt8.toInt32))]).getD ((8 : Int32)).toNatClampNeg 0 = own_want (8 : Int32) (p3 &&& (3 : Int32)) v158_5 (((p1 &&& (2147483647 : Int32)).toUInt32 >>> ((p2 &&& (31 : Int32)) &&& 31).toUInt32).toInt32) (p4.toInt8.toInt32))))]))
    have hc323_15 : (own_w 4 (p3 &&& (3 : Int32)) (((p1 &&& (2147483647 : Int32)).toUInt32 >>> ((p2 &&& (31 : Int32)) &&& 31).toUInt32).toInt32) [(nar .byte (p4.toInt8.toInt32)), (nar .byte (p4.toInt8.toInt32)), (nar .byte (p4.toInt8.toInt32)), (nar .byte (p4.toInt8.toInt32)), (nar .byte (p4.toInt8.toInt32)), (nar .byte (p4.toInt8.toInt32)), (nar .byte (p4.toInt8.toInt32)), (nar .byte (p4.toInt8.toInt32)), (nar .byte (p4.toInt8.toInt32)), (nar .byte (p4.toInt8.toInt32))]).getD ((8 : Int32)).toNatClampNeg 0 = own_want (8 : Int32) (p3 &&& (3 : Int32)) v158_5 (((p1 &&& (2147483647 : Int32)).toUInt32 >>> ((p2 &&& (31 : Int32)) &&& 31).toUInt32).toInt32) (p4.toInt8.toInt32) := own_ok8 _ _ _ _ (own_nn0 p1 p2) (own_at4 p3) hv158_5
    refine go (fun _ k => XS.ifNo X24.here hx rfl (hb hby at_323) rfl ((if0 _ _).trans (feq (bz_ne hc323_15)).1) k) ?_
    show Go p e below _ (T24.setTop (mkF m 326 #[.val (.int p1), .val (.int p2), .val (.int p3), .val (.int p4), .val (.int (((p1 &&& (2147483647 : Int32)).toUInt32 >>> ((p2 &&& (31 : Int32)) &&& 31).toUInt32).toInt32)), .val (.int (p3 &&& (3 : Int32))), .val (.int (p4.toInt8.toInt32)), .val (.ref b1), .val (.int (own_r 4 (p3 &&& (3 : Int32)) (((p1 &&& (2147483647 : Int32)).toUInt32 >>> ((p2 &&& (31 : Int32)) &&& 31).toUInt32).toInt32))), .val (.int v158_5)] []))
    refine go (fun _ k => XS.aload X24.here hx rfl (hb hby at_326) rfl rfl  k) ?_
    show Go p e below _ (T24.setTop (mkF m 328 #[.val (.int p1), .val (.int p2), .val (.int p3), .val (.int p4), .val (.int (((p1 &&& (2147483647 : Int32)).toUInt32 >>> ((p2 &&& (31 : Int32)) &&& 31).toUInt32).toInt32)), .val (.int (p3 &&& (3 : Int32))), .val (.int (p4.toInt8.toInt32)), .val (.ref b1), .val (.int (own_r 4 (p3 &&& (3 : Int32)) (((p1 &&& (2147483647 : Int32)).toUInt32 >>> ((p2 &&& (31 : Int32)) &&& 31).toUInt32).toInt32))), .val (.int v158_5)] [(.ref b1)]))
    refine go (fun _ k => XS.bipush X24.here hx rfl (hb hby at_328) k) ?_
    show Go p e below _ (T24.setTop (mkF m 330 #[.val (.int p1), .val (.int p2), .val (.int p3), .val (.int p4), .val (.int (((p1 &&& (2147483647 : Int32)).toUInt32 >>> ((p2 &&& (31 : Int32)) &&& 31).toUInt32).toInt32)), .val (.int (p3 &&& (3 : Int32))), .val (.int (p4.toInt8.toInt32)), .val (.ref b1), .val (.int (own_r 4 (p3 &&& (3 : Int32)) (((p1 &&& (2147483647 : Int32)).toUInt32 >>> ((p2 &&& (31 : Int32)) &&& 31).toUInt32).toInt32))), .val (.int v158_5)] [(.int (9 : Int32)), (.ref b1)]))
    refine go (fun _ k => XS.iload X24.here hx rfl (hb hby at_330) rfl  k) ?_
    show Go p e below _ (T24.setTop (mkF m 332 #[.val (.int p1), .val (.int p2), .val (.int p3), .val (.int p4), .val (.int (((p1 &&& (2147483647 : Int32)).toUInt32 >>> ((p2 &&& (31 : Int32)) &&& 31).toUInt32).toInt32)), .val (.int (p3 &&& (3 : Int32))), .val (.int (p4.toInt8.toInt32)), .val (.ref b1), .val (.int (own_r 4 (p3 &&& (3 : Int32)) (((p1 &&& (2147483647 : Int32)).toUInt32 >>> ((p2 &&& (31 : Int32)) &&& 31).toUInt32).toInt32))), .val (.int v158_5)] [(.int (p3 &&& (3 : Int32))), (.int (9 : Int32)), (.ref b1)]))
    refine go (fun _ k => XS.iload X24.here hx rfl (hb hby at_332) rfl  k) ?_
    show Go p e below _ (T24.setTop (mkF m 334 #[.val (.int p1), .val (.int p2), .val (.int p3), .val (.int p4), .val (.int (((p1 &&& (2147483647 : Int32)).toUInt32 >>> ((p2 &&& (31 : Int32)) &&& 31).toUInt32).toInt32)), .val (.int (p3 &&& (3 : Int32))), .val (.int (p4.toInt8.toInt32)), .val (.ref b1), .val (.int (own_r 4 (p3 &&& (3 : Int32)) (((p1 &&& (2147483647 : Int32)).toUInt32 >>> ((p2 &&& (31 : Int32)) &&& 31).toUInt32).toInt32))), .val (.int v158_5)] [(.int v158_5), (.int (p3 &&& (3 : Int32))), (.int (9 : Int32)), (.ref b1)]))
    refine go (fun _ k => XS.iload X24.here hx rfl (hb hby at_334) rfl  k) ?_
    show Go p e below _ (T24.setTop (mkF m 336 #[.val (.int p1), .val (.int p2), .val (.int p3), .val (.int p4), .val (.int (((p1 &&& (2147483647 : Int32)).toUInt32 >>> ((p2 &&& (31 : Int32)) &&& 31).toUInt32).toInt32)), .val (.int (p3 &&& (3 : Int32))), .val (.int (p4.toInt8.toInt32)), .val (.ref b1), .val (.int (own_r 4 (p3 &&& (3 : Int32)) (((p1 &&& (2147483647 : Int32)).toUInt32 >>> ((p2 &&& (31 : Int32)) &&& 31).toUInt32).toInt32))), .val (.int v158_5)] [(.int (((p1 &&& (2147483647 : Int32)).toUInt32 >>> ((p2 &&& (31 : Int32)) &&& 31).toUInt32).toInt32)), (.int v158_5), (.int (p3 &&& (3 : Int32))), (.int (9 : Int32)), (.ref b1)]))
    refine go (fun _ k => XS.iload X24.here hx rfl (hb hby at_336) rfl  k) ?_
    show Go p e below _ (T24.setTop (mkF m 338 #[.val (.int p1), .val (.int p2), .val (.int p3), .val (.int p4), .val (.int (((p1 &&& (2147483647 : Int32)).toUInt32 >>> ((p2 &&& (31 : Int32)) &&& 31).toUInt32).toInt32)), .val (.int (p3 &&& (3 : Int32))), .val (.int (p4.toInt8.toInt32)), .val (.ref b1), .val (.int (own_r 4 (p3 &&& (3 : Int32)) (((p1 &&& (2147483647 : Int32)).toUInt32 >>> ((p2 &&& (31 : Int32)) &&& 31).toUInt32).toInt32))), .val (.int v158_5)] [(.int (p4.toInt8.toInt32)), (.int (((p1 &&& (2147483647 : Int32)).toUInt32 >>> ((p2 &&& (31 : Int32)) &&& 31).toUInt32).toInt32)), (.int v158_5), (.int (p3 &&& (3 : Int32))), (.int (9 : Int32)), (.ref b1)]))
    obtain ⟨_, _, ⟨T25, L25, k25, n25⟩, -, X25, ⟨Lc25, hQ25, l25, y25, z25⟩, st25⟩ := Jvm.LawKit.callS X24 hx (y := (⟨"com/example/drienerlo/drienerlo/index/VarintWritePinLaw", "ok", "([BIIIIB)Z"⟩ : MethodName)) hown (mvT hZ (hw _ (List.mem_of_getElem? (i := 6) rfl))) (mvT hZ (hw _ (List.mem_of_getElem? (i := 7) rfl))) (mvT hZ (hw _ (List.mem_of_getElem? (i := 8) rfl))) (mvT hZ (hw _ (List.mem_of_getElem? (i := 9) rfl))) (by decide) (backOf (W := 0) (rm2 l Z a0 hw [] b1 (9 : Int32) (p3 &&& (3 : Int32)) v158_5 (((p1 &&& (2147483647 : Int32)).toUInt32 >>> ((p2 &&& (31 : Int32)) &&& 31).toUInt32).toInt32) (p4.toInt8.toInt32) k1 (own_w 4 (p3 &&& (3 : Int32)) (((p1 &&& (2147483647 : Int32)).toUInt32 >>> ((p2 &&& (31 : Int32)) &&& 31).toUInt32).toInt32) [(nar .byte (p4.toInt8.toInt32)), (nar .byte (p4.toInt8.toInt32)), (nar .byte (p4.toInt8.toInt32)), (nar .byte (p4.toInt8.toInt32)), (nar .byte (p4.toInt8.toInt32)), (nar .byte (p4.toInt8.toInt32)), (nar .byte (p4.toInt8.toInt32)), (nar .byte (p4.toInt8.toInt32)), (nar .byte (p4.toInt8.toInt32)), (nar .byte (p4.toInt8.toInt32))]) T12.heap n0 (Nat.le_trans Z0 K16.1) r12_1 (⟨by decide, by decide⟩ : ¬ (9 : Int32) < 0 ∧ (9 : Int32) < 10)) hZ (hw _ (List.mem_of_getElem? (i := 9) rfl)) (hw _ (List.mem_of_getElem? (i := 8) rfl)) (by decide) (by decide)) (g := (mkF m 338 #[.val (.int p1), .val (.int p2), .val (.int p3), .val (.int p4), .val (.int (((p1 &&& (2147483647 : Int32)).toUInt32 >>> ((p2 &&& (31 : Int32)) &&& 31).toUInt32).toInt32)), .val (.int (p3 &&& (3 : Int32))), .val (.int (p4.toInt8.toInt32)), .val (.ref b1), .val (.int (own_r 4 (p3 &&& (3 : Int32)) (((p1 &&& (2147483647 : Int32)).toUInt32 >>> ((p2 &&& (31 : Int32)) &&& 31).toUInt32).toInt32))), .val (.int v158_5)] [(.int (p4.toInt8.toInt32)), (.int (((p1 &&& (2147483647 : Int32)).toUInt32 >>> ((p2 &&& (31 : Int32)) &&& 31).toUInt32).toInt32)), (.int v158_5), (.int (p3 &&& (3 : Int32))), (.int (9 : Int32)), (.ref b1)])) rfl (by rw [hml]; rfl) (argsL := [(.ref b1), (.int (9 : Int32)), (.int (p3 &&& (3 : Int32))), (.int v158_5), (.int (((p1 &&& (2147483647 : Int32)).toUInt32 >>> ((p2 &&& (31 : Int32)) &&& 31).toUInt32).toInt32)), (.int (p4.toInt8.toInt32))]) (rest := []) (lenOf pd_1 rfl) rfl (by show 2 * 0 + _ ≤ _; exact Nat.le_of_eq rfl) (hb hby at_338) (fun _ _ => ⟨rfl, e24, (by decide : 1 + 0 ≤ _), (by decide : 10 + 0 ≤ _)⟩)
    dsimp only [Pt.U, Pt.locs, Pt.cells, Pt.slots] at X25 l25 y25 z25 st25 hQ25
    subst l25 y25 z25
    obtain ⟨rfl, N25q, e25⟩ := hQ25
    have N25 := Fr.app N24 N25q
    skip
    refine go st25 ?_
    show Go p e below _ (T25.setTop (mkF m 341 #[.val (.int p1), .val (.int p2), .val (.int p3), .val (.int p4), .val (.int (((p1 &&& (2147483647 : Int32)).toUInt32 >>> ((p2 &&& (31 : Int32)) &&& 31).toUInt32).toInt32)), .val (.int (p3 &&& (3 : Int32))), .val (.int (p4.toInt8.toInt32)), .val (.ref b1), .val (.int (own_r 4 (p3 &&& (3 : Int32)) (((p1 &&& (2147483647 : Int32)).toUInt32 >>> ((p2 &&& (31 : Int32)) &&& 31).toUInt32).toInt32))), .val (.int v158_5)] [(.int (bz ((own_w 4 (p3 &&& (3 : Int32)) (((p1 &&& (2147483647 : Int32)).toUInt32 >>> ((p2 &&& (31 : Int32)) &&& 31).toUInt32).toInt32) [(nar .byte (p4.toInt8.toInt32)), (nar .byte (p4.toInt8.toInt32)), (nar .byte (p4.toInt8.toInt32)), (nar .byte (p4.toInt8.toInt32)), (nar .byte (p4.toInt8.toInt32)), (nar .byte (p4.toInt8.toInt32)), (nar .byte (p4.toInt8.toInt32)), (nar .byte (p4.toInt8.toInt32)), (nar .byte (p4.toInt8.toInt32)), (nar .byte (p4.toInt8.toInt32))]).getD ((9 : Int32)).toNatClampNeg 0 = own_want (9 : Int32) (p3 &&& (3 : Int32)) v158_5 (((p1 &&& (2147483647 : Int32)).toUInt32 >>> ((p2 &&& (31 : Int32)) &&& 31).toUInt32).toInt32) (p4.toInt8.toInt32))))]))
    have hc341_16 : (own_w 4 (p3 &&& (3 : Int32)) (((p1 &&& (2147483647 : Int32)).toUInt32 >>> ((p2 &&& (31 : Int32)) &&& 31).toUInt32).toInt32) [(nar .byte (p4.toInt8.toInt32)), (nar .byte (p4.toInt8.toInt32)), (nar .byte (p4.toInt8.toInt32)), (nar .byte (p4.toInt8.toInt32)), (nar .byte (p4.toInt8.toInt32)), (nar .byte (p4.toInt8.toInt32)), (nar .byte (p4.toInt8.toInt32)), (nar .byte (p4.toInt8.toInt32)), (nar .byte (p4.toInt8.toInt32)), (nar .byte (p4.toInt8.toInt32))]).getD ((9 : Int32)).toNatClampNeg 0 = own_want (9 : Int32) (p3 &&& (3 : Int32)) v158_5 (((p1 &&& (2147483647 : Int32)).toUInt32 >>> ((p2 &&& (31 : Int32)) &&& 31).toUInt32).toInt32) (p4.toInt8.toInt32) := own_ok9 _ _ _ _ (own_nn0 p1 p2) (own_at4 p3) hv158_5
    refine go (fun _ k => XS.ifNo X25.here hx rfl (hb hby at_341) rfl ((if0 _ _).trans (feq (bz_ne hc341_16)).1) k) ?_
    show Go p e below _ (T25.setTop (mkF m 344 #[.val (.int p1), .val (.int p2), .val (.int p3), .val (.int p4), .val (.int (((p1 &&& (2147483647 : Int32)).toUInt32 >>> ((p2 &&& (31 : Int32)) &&& 31).toUInt32).toInt32)), .val (.int (p3 &&& (3 : Int32))), .val (.int (p4.toInt8.toInt32)), .val (.ref b1), .val (.int (own_r 4 (p3 &&& (3 : Int32)) (((p1 &&& (2147483647 : Int32)).toUInt32 >>> ((p2 &&& (31 : Int32)) &&& 31).toUInt32).toInt32))), .val (.int v158_5)] []))
    refine go (fun _ k => XS.iconst X25.here hx rfl (hb hby at_344) k) ?_
    show Go p e below _ (T25.setTop (mkF m 345 #[.val (.int p1), .val (.int p2), .val (.int p3), .val (.int p4), .val (.int (((p1 &&& (2147483647 : Int32)).toUInt32 >>> ((p2 &&& (31 : Int32)) &&& 31).toUInt32).toInt32)), .val (.int (p3 &&& (3 : Int32))), .val (.int (p4.toInt8.toInt32)), .val (.ref b1), .val (.int (own_r 4 (p3 &&& (3 : Int32)) (((p1 &&& (2147483647 : Int32)).toUInt32 >>> ((p2 &&& (31 : Int32)) &&& 31).toUInt32).toInt32))), .val (.int v158_5)] [(.int (1 : Int32))]))
    refine go (fun _ k => XS.goto X25.here hx rfl (pc0 := 345) (pc' := 349) rfl (hb hby at_345) (by decide) (by decide) k) ?_
    show Go p e below _ (T25.setTop (mkF m 349 #[.val (.int p1), .val (.int p2), .val (.int p3), .val (.int p4), .val (.int (((p1 &&& (2147483647 : Int32)).toUInt32 >>> ((p2 &&& (31 : Int32)) &&& 31).toUInt32).toInt32)), .val (.int (p3 &&& (3 : Int32))), .val (.int (p4.toInt8.toInt32)), .val (.ref b1), .val (.int (own_r 4 (p3 &&& (3 : Int32)) (((p1 &&& (2147483647 : Int32)).toUInt32 >>> ((p2 &&& (31 : Int32)) &&& 31).toUInt32).toInt32))), .val (.int v158_5)] [(.int (1 : Int32))]))
    obtain ⟨fs, hr, hrun, hended, hW, hsame⟩ := X25.leave (v := some (.int (1 : Int32))) (fun h => by rw [Bd.returns] at h; cases h)
    refine leaf (T := T25) ⟨fs, retN X25 hx (t := .boolean) Bd.returns (by simp) (hb hby at_349) hr, hrun, hended, hW, hsame⟩ ?_ (by decide) (by decide)
    show Q0 Z p1 p2 p3 p4 h0 n0 _ T25.heap _
    rw [e25]
    exact ⟨rfl, N25⟩
  by_cases hc106_1 : (((p1 &&& (2147483647 : Int32)).toUInt32 >>> ((p2 &&& (31 : Int32)) &&& 31).toUInt32).toInt32) < (128 : Int32)
  · skip
    refine go (fun _ k => XS.icmpNo X12.here hx rfl (hb hby at_106) rfl (tlt hc106_1).2.1 k) ?_
    show Go p e below _ (T12.setTop (mkF m 109 #[.val (.int p1), .val (.int p2), .val (.int p3), .val (.int p4), .val (.int (((p1 &&& (2147483647 : Int32)).toUInt32 >>> ((p2 &&& (31 : Int32)) &&& 31).toUInt32).toInt32)), .val (.int (p3 &&& (3 : Int32))), .val (.int (p4.toInt8.toInt32)), .val (.ref b1), .val (.int (own_r 4 (p3 &&& (3 : Int32)) (((p1 &&& (2147483647 : Int32)).toUInt32 >>> ((p2 &&& (31 : Int32)) &&& 31).toUInt32).toInt32))), .unset] []))
    refine go (fun _ k => XS.iconst X12.here hx rfl (hb hby at_109) k) ?_
    show Go p e below _ (T12.setTop (mkF m 110 #[.val (.int p1), .val (.int p2), .val (.int p3), .val (.int p4), .val (.int (((p1 &&& (2147483647 : Int32)).toUInt32 >>> ((p2 &&& (31 : Int32)) &&& 31).toUInt32).toInt32)), .val (.int (p3 &&& (3 : Int32))), .val (.int (p4.toInt8.toInt32)), .val (.ref b1), .val (.int (own_r 4 (p3 &&& (3 : Int32)) (((p1 &&& (2147483647 : Int32)).toUInt32 >>> ((p2 &&& (31 : Int32)) &&& 31).toUInt32).toInt32))), .unset] [(.int (1 : Int32))]))
    refine go (fun _ k => XS.istore X12.here hx rfl (hb hby at_110) rfl (l' := #[.val (.int p1), .val (.int p2), .val (.int p3), .val (.int p4), .val (.int (((p1 &&& (2147483647 : Int32)).toUInt32 >>> ((p2 &&& (31 : Int32)) &&& 31).toUInt32).toInt32)), .val (.int (p3 &&& (3 : Int32))), .val (.int (p4.toInt8.toInt32)), .val (.ref b1), .val (.int (own_r 4 (p3 &&& (3 : Int32)) (((p1 &&& (2147483647 : Int32)).toUInt32 >>> ((p2 &&& (31 : Int32)) &&& 31).toUInt32).toInt32))), .val (.int (1 : Int32))]) rfl k) ?_
    show Go p e below _ (T12.setTop (mkF m 112 #[.val (.int p1), .val (.int p2), .val (.int p3), .val (.int p4), .val (.int (((p1 &&& (2147483647 : Int32)).toUInt32 >>> ((p2 &&& (31 : Int32)) &&& 31).toUInt32).toInt32)), .val (.int (p3 &&& (3 : Int32))), .val (.int (p4.toInt8.toInt32)), .val (.ref b1), .val (.int (own_r 4 (p3 &&& (3 : Int32)) (((p1 &&& (2147483647 : Int32)).toUInt32 >>> ((p2 &&& (31 : Int32)) &&& 31).toUInt32).toInt32))), .val (.int (1 : Int32))] []))
    refine go (fun _ k => XS.goto X12.here hx rfl (pc0 := 112) (pc' := 158) rfl (hb hby at_112) (by decide) (by decide) k) ?_
    show Go p e below _ (T12.setTop (mkF m 158 #[.val (.int p1), .val (.int p2), .val (.int p3), .val (.int p4), .val (.int (((p1 &&& (2147483647 : Int32)).toUInt32 >>> ((p2 &&& (31 : Int32)) &&& 31).toUInt32).toInt32)), .val (.int (p3 &&& (3 : Int32))), .val (.int (p4.toInt8.toInt32)), .val (.ref b1), .val (.int (own_r 4 (p3 &&& (3 : Int32)) (((p1 &&& (2147483647 : Int32)).toUInt32 >>> ((p2 &&& (31 : Int32)) &&& 31).toUInt32).toInt32))), .val (.int (1 : Int32))] []))
    exact J158_14 _ (by simp only [if_pos hc106_1, bz_t hc106_1, bz_f (fun q => q hc106_1 : ¬ ¬ ((((p1 &&& (2147483647 : Int32)).toUInt32 >>> ((p2 &&& (31 : Int32)) &&& 31).toUInt32).toInt32) < (128 : Int32)))])
  · skip
    refine go (fun _ k => XS.icmpYes X12.here hx rfl (pc0 := 106) (pc' := 115) rfl (hb hby at_106) rfl (flt hc106_1).2.1 (by decide) (by decide) k) ?_
    show Go p e below _ (T12.setTop (mkF m 115 #[.val (.int p1), .val (.int p2), .val (.int p3), .val (.int p4), .val (.int (((p1 &&& (2147483647 : Int32)).toUInt32 >>> ((p2 &&& (31 : Int32)) &&& 31).toUInt32).toInt32)), .val (.int (p3 &&& (3 : Int32))), .val (.int (p4.toInt8.toInt32)), .val (.ref b1), .val (.int (own_r 4 (p3 &&& (3 : Int32)) (((p1 &&& (2147483647 : Int32)).toUInt32 >>> ((p2 &&& (31 : Int32)) &&& 31).toUInt32).toInt32))), .unset] []))
    refine go (fun _ k => XS.iload X12.here hx rfl (hb hby at_115) rfl  k) ?_
    show Go p e below _ (T12.setTop (mkF m 117 #[.val (.int p1), .val (.int p2), .val (.int p3), .val (.int p4), .val (.int (((p1 &&& (2147483647 : Int32)).toUInt32 >>> ((p2 &&& (31 : Int32)) &&& 31).toUInt32).toInt32)), .val (.int (p3 &&& (3 : Int32))), .val (.int (p4.toInt8.toInt32)), .val (.ref b1), .val (.int (own_r 4 (p3 &&& (3 : Int32)) (((p1 &&& (2147483647 : Int32)).toUInt32 >>> ((p2 &&& (31 : Int32)) &&& 31).toUInt32).toInt32))), .unset] [(.int (((p1 &&& (2147483647 : Int32)).toUInt32 >>> ((p2 &&& (31 : Int32)) &&& 31).toUInt32).toInt32))]))
    refine go (fun _ k => XS.sipush X12.here hx rfl (hb hby at_117) k) ?_
    show Go p e below _ (T12.setTop (mkF m 120 #[.val (.int p1), .val (.int p2), .val (.int p3), .val (.int p4), .val (.int (((p1 &&& (2147483647 : Int32)).toUInt32 >>> ((p2 &&& (31 : Int32)) &&& 31).toUInt32).toInt32)), .val (.int (p3 &&& (3 : Int32))), .val (.int (p4.toInt8.toInt32)), .val (.ref b1), .val (.int (own_r 4 (p3 &&& (3 : Int32)) (((p1 &&& (2147483647 : Int32)).toUInt32 >>> ((p2 &&& (31 : Int32)) &&& 31).toUInt32).toInt32))), .unset] [(.int (16384 : Int32)), (.int (((p1 &&& (2147483647 : Int32)).toUInt32 >>> ((p2 &&& (31 : Int32)) &&& 31).toUInt32).toInt32))]))
    by_cases hc120_17 : (((p1 &&& (2147483647 : Int32)).toUInt32 >>> ((p2 &&& (31 : Int32)) &&& 31).toUInt32).toInt32) < (16384 : Int32)
    · skip
      refine go (fun _ k => XS.icmpNo X12.here hx rfl (hb hby at_120) rfl (tlt hc120_17).2.1 k) ?_
      show Go p e below _ (T12.setTop (mkF m 123 #[.val (.int p1), .val (.int p2), .val (.int p3), .val (.int p4), .val (.int (((p1 &&& (2147483647 : Int32)).toUInt32 >>> ((p2 &&& (31 : Int32)) &&& 31).toUInt32).toInt32)), .val (.int (p3 &&& (3 : Int32))), .val (.int (p4.toInt8.toInt32)), .val (.ref b1), .val (.int (own_r 4 (p3 &&& (3 : Int32)) (((p1 &&& (2147483647 : Int32)).toUInt32 >>> ((p2 &&& (31 : Int32)) &&& 31).toUInt32).toInt32))), .unset] []))
      refine go (fun _ k => XS.iconst X12.here hx rfl (hb hby at_123) k) ?_
      show Go p e below _ (T12.setTop (mkF m 124 #[.val (.int p1), .val (.int p2), .val (.int p3), .val (.int p4), .val (.int (((p1 &&& (2147483647 : Int32)).toUInt32 >>> ((p2 &&& (31 : Int32)) &&& 31).toUInt32).toInt32)), .val (.int (p3 &&& (3 : Int32))), .val (.int (p4.toInt8.toInt32)), .val (.ref b1), .val (.int (own_r 4 (p3 &&& (3 : Int32)) (((p1 &&& (2147483647 : Int32)).toUInt32 >>> ((p2 &&& (31 : Int32)) &&& 31).toUInt32).toInt32))), .unset] [(.int (2 : Int32))]))
      refine go (fun _ k => XS.istore X12.here hx rfl (hb hby at_124) rfl (l' := #[.val (.int p1), .val (.int p2), .val (.int p3), .val (.int p4), .val (.int (((p1 &&& (2147483647 : Int32)).toUInt32 >>> ((p2 &&& (31 : Int32)) &&& 31).toUInt32).toInt32)), .val (.int (p3 &&& (3 : Int32))), .val (.int (p4.toInt8.toInt32)), .val (.ref b1), .val (.int (own_r 4 (p3 &&& (3 : Int32)) (((p1 &&& (2147483647 : Int32)).toUInt32 >>> ((p2 &&& (31 : Int32)) &&& 31).toUInt32).toInt32))), .val (.int (2 : Int32))]) rfl k) ?_
      show Go p e below _ (T12.setTop (mkF m 126 #[.val (.int p1), .val (.int p2), .val (.int p3), .val (.int p4), .val (.int (((p1 &&& (2147483647 : Int32)).toUInt32 >>> ((p2 &&& (31 : Int32)) &&& 31).toUInt32).toInt32)), .val (.int (p3 &&& (3 : Int32))), .val (.int (p4.toInt8.toInt32)), .val (.ref b1), .val (.int (own_r 4 (p3 &&& (3 : Int32)) (((p1 &&& (2147483647 : Int32)).toUInt32 >>> ((p2 &&& (31 : Int32)) &&& 31).toUInt32).toInt32))), .val (.int (2 : Int32))] []))
      refine go (fun _ k => XS.goto X12.here hx rfl (pc0 := 126) (pc' := 158) rfl (hb hby at_126) (by decide) (by decide) k) ?_
      show Go p e below _ (T12.setTop (mkF m 158 #[.val (.int p1), .val (.int p2), .val (.int p3), .val (.int p4), .val (.int (((p1 &&& (2147483647 : Int32)).toUInt32 >>> ((p2 &&& (31 : Int32)) &&& 31).toUInt32).toInt32)), .val (.int (p3 &&& (3 : Int32))), .val (.int (p4.toInt8.toInt32)), .val (.ref b1), .val (.int (own_r 4 (p3 &&& (3 : Int32)) (((p1 &&& (2147483647 : Int32)).toUInt32 >>> ((p2 &&& (31 : Int32)) &&& 31).toUInt32).toInt32))), .val (.int (2 : Int32))] []))
      exact J158_14 _ (by simp only [if_neg hc106_1, bz_f hc106_1, bz_t hc106_1, if_pos hc120_17, bz_t hc120_17, bz_f (fun q => q hc120_17 : ¬ ¬ ((((p1 &&& (2147483647 : Int32)).toUInt32 >>> ((p2 &&& (31 : Int32)) &&& 31).toUInt32).toInt32) < (16384 : Int32)))])
    · skip
      refine go (fun _ k => XS.icmpYes X12.here hx rfl (pc0 := 120) (pc' := 129) rfl (hb hby at_120) rfl (flt hc120_17).2.1 (by decide) (by decide) k) ?_
      show Go p e below _ (T12.setTop (mkF m 129 #[.val (.int p1), .val (.int p2), .val (.int p3), .val (.int p4), .val (.int (((p1 &&& (2147483647 : Int32)).toUInt32 >>> ((p2 &&& (31 : Int32)) &&& 31).toUInt32).toInt32)), .val (.int (p3 &&& (3 : Int32))), .val (.int (p4.toInt8.toInt32)), .val (.ref b1), .val (.int (own_r 4 (p3 &&& (3 : Int32)) (((p1 &&& (2147483647 : Int32)).toUInt32 >>> ((p2 &&& (31 : Int32)) &&& 31).toUInt32).toInt32))), .unset] []))
      refine go (fun _ k => XS.iload X12.here hx rfl (hb hby at_129) rfl  k) ?_
      show Go p e below _ (T12.setTop (mkF m 131 #[.val (.int p1), .val (.int p2), .val (.int p3), .val (.int p4), .val (.int (((p1 &&& (2147483647 : Int32)).toUInt32 >>> ((p2 &&& (31 : Int32)) &&& 31).toUInt32).toInt32)), .val (.int (p3 &&& (3 : Int32))), .val (.int (p4.toInt8.toInt32)), .val (.ref b1), .val (.int (own_r 4 (p3 &&& (3 : Int32)) (((p1 &&& (2147483647 : Int32)).toUInt32 >>> ((p2 &&& (31 : Int32)) &&& 31).toUInt32).toInt32))), .unset] [(.int (((p1 &&& (2147483647 : Int32)).toUInt32 >>> ((p2 &&& (31 : Int32)) &&& 31).toUInt32).toInt32))]))
      refine go (X12.ldcInt hx hown (mvT hZ (hw _ (List.mem_of_getElem? (i := 10) rfl))) (g := (mkF m 131 #[.val (.int p1), .val (.int p2), .val (.int p3), .val (.int p4), .val (.int (((p1 &&& (2147483647 : Int32)).toUInt32 >>> ((p2 &&& (31 : Int32)) &&& 31).toUInt32).toInt32)), .val (.int (p3 &&& (3 : Int32))), .val (.int (p4.toInt8.toInt32)), .val (.ref b1), .val (.int (own_r 4 (p3 &&& (3 : Int32)) (((p1 &&& (2147483647 : Int32)).toUInt32 >>> ((p2 &&& (31 : Int32)) &&& 31).toUInt32).toInt32))), .unset] [(.int (((p1 &&& (2147483647 : Int32)).toUInt32 >>> ((p2 &&& (31 : Int32)) &&& 31).toUInt32).toInt32))])) rfl (hb hby at_131)) ?_
      show Go p e below _ (T12.setTop (mkF m 133 #[.val (.int p1), .val (.int p2), .val (.int p3), .val (.int p4), .val (.int (((p1 &&& (2147483647 : Int32)).toUInt32 >>> ((p2 &&& (31 : Int32)) &&& 31).toUInt32).toInt32)), .val (.int (p3 &&& (3 : Int32))), .val (.int (p4.toInt8.toInt32)), .val (.ref b1), .val (.int (own_r 4 (p3 &&& (3 : Int32)) (((p1 &&& (2147483647 : Int32)).toUInt32 >>> ((p2 &&& (31 : Int32)) &&& 31).toUInt32).toInt32))), .unset] [(.int (2097152 : Int32)), (.int (((p1 &&& (2147483647 : Int32)).toUInt32 >>> ((p2 &&& (31 : Int32)) &&& 31).toUInt32).toInt32))]))
      by_cases hc133_18 : (((p1 &&& (2147483647 : Int32)).toUInt32 >>> ((p2 &&& (31 : Int32)) &&& 31).toUInt32).toInt32) < (2097152 : Int32)
      · skip
        refine go (fun _ k => XS.icmpNo X12.here hx rfl (hb hby at_133) rfl (tlt hc133_18).2.1 k) ?_
        show Go p e below _ (T12.setTop (mkF m 136 #[.val (.int p1), .val (.int p2), .val (.int p3), .val (.int p4), .val (.int (((p1 &&& (2147483647 : Int32)).toUInt32 >>> ((p2 &&& (31 : Int32)) &&& 31).toUInt32).toInt32)), .val (.int (p3 &&& (3 : Int32))), .val (.int (p4.toInt8.toInt32)), .val (.ref b1), .val (.int (own_r 4 (p3 &&& (3 : Int32)) (((p1 &&& (2147483647 : Int32)).toUInt32 >>> ((p2 &&& (31 : Int32)) &&& 31).toUInt32).toInt32))), .unset] []))
        refine go (fun _ k => XS.iconst X12.here hx rfl (hb hby at_136) k) ?_
        show Go p e below _ (T12.setTop (mkF m 137 #[.val (.int p1), .val (.int p2), .val (.int p3), .val (.int p4), .val (.int (((p1 &&& (2147483647 : Int32)).toUInt32 >>> ((p2 &&& (31 : Int32)) &&& 31).toUInt32).toInt32)), .val (.int (p3 &&& (3 : Int32))), .val (.int (p4.toInt8.toInt32)), .val (.ref b1), .val (.int (own_r 4 (p3 &&& (3 : Int32)) (((p1 &&& (2147483647 : Int32)).toUInt32 >>> ((p2 &&& (31 : Int32)) &&& 31).toUInt32).toInt32))), .unset] [(.int (3 : Int32))]))
        refine go (fun _ k => XS.istore X12.here hx rfl (hb hby at_137) rfl (l' := #[.val (.int p1), .val (.int p2), .val (.int p3), .val (.int p4), .val (.int (((p1 &&& (2147483647 : Int32)).toUInt32 >>> ((p2 &&& (31 : Int32)) &&& 31).toUInt32).toInt32)), .val (.int (p3 &&& (3 : Int32))), .val (.int (p4.toInt8.toInt32)), .val (.ref b1), .val (.int (own_r 4 (p3 &&& (3 : Int32)) (((p1 &&& (2147483647 : Int32)).toUInt32 >>> ((p2 &&& (31 : Int32)) &&& 31).toUInt32).toInt32))), .val (.int (3 : Int32))]) rfl k) ?_
        show Go p e below _ (T12.setTop (mkF m 139 #[.val (.int p1), .val (.int p2), .val (.int p3), .val (.int p4), .val (.int (((p1 &&& (2147483647 : Int32)).toUInt32 >>> ((p2 &&& (31 : Int32)) &&& 31).toUInt32).toInt32)), .val (.int (p3 &&& (3 : Int32))), .val (.int (p4.toInt8.toInt32)), .val (.ref b1), .val (.int (own_r 4 (p3 &&& (3 : Int32)) (((p1 &&& (2147483647 : Int32)).toUInt32 >>> ((p2 &&& (31 : Int32)) &&& 31).toUInt32).toInt32))), .val (.int (3 : Int32))] []))
        refine go (fun _ k => XS.goto X12.here hx rfl (pc0 := 139) (pc' := 158) rfl (hb hby at_139) (by decide) (by decide) k) ?_
        show Go p e below _ (T12.setTop (mkF m 158 #[.val (.int p1), .val (.int p2), .val (.int p3), .val (.int p4), .val (.int (((p1 &&& (2147483647 : Int32)).toUInt32 >>> ((p2 &&& (31 : Int32)) &&& 31).toUInt32).toInt32)), .val (.int (p3 &&& (3 : Int32))), .val (.int (p4.toInt8.toInt32)), .val (.ref b1), .val (.int (own_r 4 (p3 &&& (3 : Int32)) (((p1 &&& (2147483647 : Int32)).toUInt32 >>> ((p2 &&& (31 : Int32)) &&& 31).toUInt32).toInt32))), .val (.int (3 : Int32))] []))
        exact J158_14 _ (by simp only [if_neg hc106_1, bz_f hc106_1, bz_t hc106_1, if_neg hc120_17, bz_f hc120_17, bz_t hc120_17, if_pos hc133_18, bz_t hc133_18, bz_f (fun q => q hc133_18 : ¬ ¬ ((((p1 &&& (2147483647 : Int32)).toUInt32 >>> ((p2 &&& (31 : Int32)) &&& 31).toUInt32).toInt32) < (2097152 : Int32)))])
      · skip
        refine go (fun _ k => XS.icmpYes X12.here hx rfl (pc0 := 133) (pc' := 142) rfl (hb hby at_133) rfl (flt hc133_18).2.1 (by decide) (by decide) k) ?_
        show Go p e below _ (T12.setTop (mkF m 142 #[.val (.int p1), .val (.int p2), .val (.int p3), .val (.int p4), .val (.int (((p1 &&& (2147483647 : Int32)).toUInt32 >>> ((p2 &&& (31 : Int32)) &&& 31).toUInt32).toInt32)), .val (.int (p3 &&& (3 : Int32))), .val (.int (p4.toInt8.toInt32)), .val (.ref b1), .val (.int (own_r 4 (p3 &&& (3 : Int32)) (((p1 &&& (2147483647 : Int32)).toUInt32 >>> ((p2 &&& (31 : Int32)) &&& 31).toUInt32).toInt32))), .unset] []))
        refine go (fun _ k => XS.iload X12.here hx rfl (hb hby at_142) rfl  k) ?_
        show Go p e below _ (T12.setTop (mkF m 144 #[.val (.int p1), .val (.int p2), .val (.int p3), .val (.int p4), .val (.int (((p1 &&& (2147483647 : Int32)).toUInt32 >>> ((p2 &&& (31 : Int32)) &&& 31).toUInt32).toInt32)), .val (.int (p3 &&& (3 : Int32))), .val (.int (p4.toInt8.toInt32)), .val (.ref b1), .val (.int (own_r 4 (p3 &&& (3 : Int32)) (((p1 &&& (2147483647 : Int32)).toUInt32 >>> ((p2 &&& (31 : Int32)) &&& 31).toUInt32).toInt32))), .unset] [(.int (((p1 &&& (2147483647 : Int32)).toUInt32 >>> ((p2 &&& (31 : Int32)) &&& 31).toUInt32).toInt32))]))
        refine go (X12.ldcInt hx hown (mvT hZ (hw _ (List.mem_of_getElem? (i := 11) rfl))) (g := (mkF m 144 #[.val (.int p1), .val (.int p2), .val (.int p3), .val (.int p4), .val (.int (((p1 &&& (2147483647 : Int32)).toUInt32 >>> ((p2 &&& (31 : Int32)) &&& 31).toUInt32).toInt32)), .val (.int (p3 &&& (3 : Int32))), .val (.int (p4.toInt8.toInt32)), .val (.ref b1), .val (.int (own_r 4 (p3 &&& (3 : Int32)) (((p1 &&& (2147483647 : Int32)).toUInt32 >>> ((p2 &&& (31 : Int32)) &&& 31).toUInt32).toInt32))), .unset] [(.int (((p1 &&& (2147483647 : Int32)).toUInt32 >>> ((p2 &&& (31 : Int32)) &&& 31).toUInt32).toInt32))])) rfl (hb hby at_144)) ?_
        show Go p e below _ (T12.setTop (mkF m 146 #[.val (.int p1), .val (.int p2), .val (.int p3), .val (.int p4), .val (.int (((p1 &&& (2147483647 : Int32)).toUInt32 >>> ((p2 &&& (31 : Int32)) &&& 31).toUInt32).toInt32)), .val (.int (p3 &&& (3 : Int32))), .val (.int (p4.toInt8.toInt32)), .val (.ref b1), .val (.int (own_r 4 (p3 &&& (3 : Int32)) (((p1 &&& (2147483647 : Int32)).toUInt32 >>> ((p2 &&& (31 : Int32)) &&& 31).toUInt32).toInt32))), .unset] [(.int (268435456 : Int32)), (.int (((p1 &&& (2147483647 : Int32)).toUInt32 >>> ((p2 &&& (31 : Int32)) &&& 31).toUInt32).toInt32))]))
        by_cases hc146_19 : (((p1 &&& (2147483647 : Int32)).toUInt32 >>> ((p2 &&& (31 : Int32)) &&& 31).toUInt32).toInt32) < (268435456 : Int32)
        · skip
          refine go (fun _ k => XS.icmpNo X12.here hx rfl (hb hby at_146) rfl (tlt hc146_19).2.1 k) ?_
          show Go p e below _ (T12.setTop (mkF m 149 #[.val (.int p1), .val (.int p2), .val (.int p3), .val (.int p4), .val (.int (((p1 &&& (2147483647 : Int32)).toUInt32 >>> ((p2 &&& (31 : Int32)) &&& 31).toUInt32).toInt32)), .val (.int (p3 &&& (3 : Int32))), .val (.int (p4.toInt8.toInt32)), .val (.ref b1), .val (.int (own_r 4 (p3 &&& (3 : Int32)) (((p1 &&& (2147483647 : Int32)).toUInt32 >>> ((p2 &&& (31 : Int32)) &&& 31).toUInt32).toInt32))), .unset] []))
          refine go (fun _ k => XS.iconst X12.here hx rfl (hb hby at_149) k) ?_
          show Go p e below _ (T12.setTop (mkF m 150 #[.val (.int p1), .val (.int p2), .val (.int p3), .val (.int p4), .val (.int (((p1 &&& (2147483647 : Int32)).toUInt32 >>> ((p2 &&& (31 : Int32)) &&& 31).toUInt32).toInt32)), .val (.int (p3 &&& (3 : Int32))), .val (.int (p4.toInt8.toInt32)), .val (.ref b1), .val (.int (own_r 4 (p3 &&& (3 : Int32)) (((p1 &&& (2147483647 : Int32)).toUInt32 >>> ((p2 &&& (31 : Int32)) &&& 31).toUInt32).toInt32))), .unset] [(.int (4 : Int32))]))
          refine go (fun _ k => XS.istore X12.here hx rfl (hb hby at_150) rfl (l' := #[.val (.int p1), .val (.int p2), .val (.int p3), .val (.int p4), .val (.int (((p1 &&& (2147483647 : Int32)).toUInt32 >>> ((p2 &&& (31 : Int32)) &&& 31).toUInt32).toInt32)), .val (.int (p3 &&& (3 : Int32))), .val (.int (p4.toInt8.toInt32)), .val (.ref b1), .val (.int (own_r 4 (p3 &&& (3 : Int32)) (((p1 &&& (2147483647 : Int32)).toUInt32 >>> ((p2 &&& (31 : Int32)) &&& 31).toUInt32).toInt32))), .val (.int (4 : Int32))]) rfl k) ?_
          show Go p e below _ (T12.setTop (mkF m 152 #[.val (.int p1), .val (.int p2), .val (.int p3), .val (.int p4), .val (.int (((p1 &&& (2147483647 : Int32)).toUInt32 >>> ((p2 &&& (31 : Int32)) &&& 31).toUInt32).toInt32)), .val (.int (p3 &&& (3 : Int32))), .val (.int (p4.toInt8.toInt32)), .val (.ref b1), .val (.int (own_r 4 (p3 &&& (3 : Int32)) (((p1 &&& (2147483647 : Int32)).toUInt32 >>> ((p2 &&& (31 : Int32)) &&& 31).toUInt32).toInt32))), .val (.int (4 : Int32))] []))
          refine go (fun _ k => XS.goto X12.here hx rfl (pc0 := 152) (pc' := 158) rfl (hb hby at_152) (by decide) (by decide) k) ?_
          show Go p e below _ (T12.setTop (mkF m 158 #[.val (.int p1), .val (.int p2), .val (.int p3), .val (.int p4), .val (.int (((p1 &&& (2147483647 : Int32)).toUInt32 >>> ((p2 &&& (31 : Int32)) &&& 31).toUInt32).toInt32)), .val (.int (p3 &&& (3 : Int32))), .val (.int (p4.toInt8.toInt32)), .val (.ref b1), .val (.int (own_r 4 (p3 &&& (3 : Int32)) (((p1 &&& (2147483647 : Int32)).toUInt32 >>> ((p2 &&& (31 : Int32)) &&& 31).toUInt32).toInt32))), .val (.int (4 : Int32))] []))
          exact J158_14 _ (by simp only [if_neg hc106_1, bz_f hc106_1, bz_t hc106_1, if_neg hc120_17, bz_f hc120_17, bz_t hc120_17, if_neg hc133_18, bz_f hc133_18, bz_t hc133_18, if_pos hc146_19, bz_t hc146_19, bz_f (fun q => q hc146_19 : ¬ ¬ ((((p1 &&& (2147483647 : Int32)).toUInt32 >>> ((p2 &&& (31 : Int32)) &&& 31).toUInt32).toInt32) < (268435456 : Int32)))])
        · skip
          refine go (fun _ k => XS.icmpYes X12.here hx rfl (pc0 := 146) (pc' := 155) rfl (hb hby at_146) rfl (flt hc146_19).2.1 (by decide) (by decide) k) ?_
          show Go p e below _ (T12.setTop (mkF m 155 #[.val (.int p1), .val (.int p2), .val (.int p3), .val (.int p4), .val (.int (((p1 &&& (2147483647 : Int32)).toUInt32 >>> ((p2 &&& (31 : Int32)) &&& 31).toUInt32).toInt32)), .val (.int (p3 &&& (3 : Int32))), .val (.int (p4.toInt8.toInt32)), .val (.ref b1), .val (.int (own_r 4 (p3 &&& (3 : Int32)) (((p1 &&& (2147483647 : Int32)).toUInt32 >>> ((p2 &&& (31 : Int32)) &&& 31).toUInt32).toInt32))), .unset] []))
          refine go (fun _ k => XS.iconst X12.here hx rfl (hb hby at_155) k) ?_
          show Go p e below _ (T12.setTop (mkF m 156 #[.val (.int p1), .val (.int p2), .val (.int p3), .val (.int p4), .val (.int (((p1 &&& (2147483647 : Int32)).toUInt32 >>> ((p2 &&& (31 : Int32)) &&& 31).toUInt32).toInt32)), .val (.int (p3 &&& (3 : Int32))), .val (.int (p4.toInt8.toInt32)), .val (.ref b1), .val (.int (own_r 4 (p3 &&& (3 : Int32)) (((p1 &&& (2147483647 : Int32)).toUInt32 >>> ((p2 &&& (31 : Int32)) &&& 31).toUInt32).toInt32))), .unset] [(.int (5 : Int32))]))
          refine go (fun _ k => XS.istore X12.here hx rfl (hb hby at_156) rfl (l' := #[.val (.int p1), .val (.int p2), .val (.int p3), .val (.int p4), .val (.int (((p1 &&& (2147483647 : Int32)).toUInt32 >>> ((p2 &&& (31 : Int32)) &&& 31).toUInt32).toInt32)), .val (.int (p3 &&& (3 : Int32))), .val (.int (p4.toInt8.toInt32)), .val (.ref b1), .val (.int (own_r 4 (p3 &&& (3 : Int32)) (((p1 &&& (2147483647 : Int32)).toUInt32 >>> ((p2 &&& (31 : Int32)) &&& 31).toUInt32).toInt32))), .val (.int (5 : Int32))]) rfl k) ?_
          show Go p e below _ (T12.setTop (mkF m 158 #[.val (.int p1), .val (.int p2), .val (.int p3), .val (.int p4), .val (.int (((p1 &&& (2147483647 : Int32)).toUInt32 >>> ((p2 &&& (31 : Int32)) &&& 31).toUInt32).toInt32)), .val (.int (p3 &&& (3 : Int32))), .val (.int (p4.toInt8.toInt32)), .val (.ref b1), .val (.int (own_r 4 (p3 &&& (3 : Int32)) (((p1 &&& (2147483647 : Int32)).toUInt32 >>> ((p2 &&& (31 : Int32)) &&& 31).toUInt32).toInt32))), .val (.int (5 : Int32))] []))
          exact J158_14 _ (by simp only [if_neg hc106_1, bz_f hc106_1, bz_t hc106_1, if_neg hc120_17, bz_f hc120_17, bz_t hc120_17, if_neg hc133_18, bz_f hc133_18, bz_t hc133_18, if_neg hc146_19, bz_f hc146_19, bz_t hc146_19])
set_option maxRecDepth 65536 in
set_option maxHeartbeats 40000000 in
theorem comes_1 {Post : Tables → Env → Array Value → State → Outcome → State → Prop} (hpost : ∀ tb e args s v u, (limb_1_1.after args s (.returned v) u = true ∧ limb_1_2.after args s (.returned v) u = true ∧ True) → FrameEnd s (.returned v) u (Jvm.fieldLocs frame_1_writes args s ++ Jvm.arrayLocs frame_1_arrays args s ++ Jvm.staticLocs frame_1_statics s) 16 128 → Post tb e args s (.returned v) u) :
    ArmFor flags0 classFile x code maxLocals ret World_1 tables_1 room_1 Calls_1 rest_1 Pre_1 Post := by
  intro l hfl _ _ p e ha hc hk s m args below hf hA hF happ hP
  obtain ⟨hcalls, hrest, hpre⟩ := hP
  obtain ⟨-, -, -, hnamed, -, -, -, hat⟩ := (Spec.applies_iff hf).mp happ
  obtain ⟨hg, hn⟩ := and_e (Cond.before_iff.mp (show (Jvm.Cond.and given_1 narrow_1).before args s = true from hpre))
  obtain ⟨hg1, hg2⟩ := and_e hg
  obtain ⟨hg3, hg4⟩ := and_e hg2
  obtain ⟨hg5, hg6⟩ := and_e hg4
  obtain ⟨hg7, hg8⟩ := and_e hg6
  obtain ⟨w0, w1, w2, w3, rfl⟩ : ∃ w0 w1 w2 w3 : Value, args = #[w0, w1, w2, w3] := by
    have hs : args.size = 4 := by simpa [Cond.value, given_1] using hg1
    obtain ⟨L⟩ := args
    match L, hs with
    | [w0, w1, w2, w3], _ => exact ⟨w0, w1, w2, w3, rfl⟩
  have hw := fun d (hd : d ∈ tables_1) => atoms_spec (ws := Jvm.Cond.code x code maxLocals ret :: tables_1) hat d (List.mem_cons_of_mem _ hd)
  have hfit : Fit s := fun {y c} hc i hi => by
    obtain ⟨ha, rfl⟩ := Array.getElem?_eq_some_iff.mp hc
    have q := List.all_eq_true.mp ((Array.all_eq_true_iff_forall_mem.mp hF) _ (Array.getElem_mem ha)) i (List.mem_range.mpr hi)
    simpa [Array.getElem?_eq_getElem hi] using q
  obtain ⟨i0, ei0⟩ := is_v hg3
  obtain rfl : w0 = (.int i0) := Option.some.inj ei0
  obtain ⟨i1, ei1⟩ := is_v hg5
  obtain rfl : w1 = (.int i1) := Option.some.inj ei1
  obtain ⟨i2, ei2⟩ := is_v hg7
  obtain rfl : w2 = (.int i2) := Option.some.inj ei2
  obtain ⟨i3, ei3⟩ := is_v hg8
  obtain rfl : w3 = (.int i3) := Option.some.inj ei3
  obtain ⟨n, o, h1, h2, h3, _, L, rfl, ⟨rfl, N⟩, hq⟩ := rm0 l s _ hw tables_1 i0 i1 i2 i3 s.heap s.heap.size (Nat.le_refl _)  p e ha hc hk s m _ below hf ((Spec.applies_iff_loose hf).mp happ).1 ⟨rfl, State.Warmed39.refl s, rfl⟩ trivial
  refine ⟨n, _, h1, h2, h3, hpost _ _ _ _ _ _ ⟨Cond.after_iff.mpr rfl, Cond.after_iff.mpr (eq_i res_at (Term.int_eval (1)) rfl), trivial⟩ ⟨hq.1, hq.2.1, (hq.2.2.sift fun y hy => Or.inr (N y hy)).mono (by decide) (by decide)⟩⟩
theorem main_1_1 : Claimed_1_1 := comes_1 fun _ _ _ _ _ _ h hF => ⟨h.1, hF⟩
theorem main_1_2 : Claimed_1_2 := comes_1 fun _ _ _ _ _ _ h hF => ⟨h.2.1, hF⟩
end Jvm.Pilot.@@N@@
namespace Jvm.Pilot.@@N@@
open Jvm Jvm.ClassFile Sem Op Lib Jvm.Free Jvm.Stand Jvm.Pilot.@@N@@.Jvm.D
/-! MADE BY PROGRAM (witnessworld.py) out of the Statement's table words and the real class files: 9 classes; the members and pool entries that the words name. The judged class is class 1, her method 1. -/
namespace start1
open Jvm.ClassFile
def u (s : String) : CpInfo := .utf8 (stringToUtf16 s)
/-- a pool by its gaps: so many unusable entries, then the entry; so many at the end -/
def gap : Nat → List CpInfo → List CpInfo
  | 0, r => r
  | n + 1, r => .unusable :: gap n r
def poolList (es : List (Nat × CpInfo)) (last : Nat) : List CpInfo := es.foldr (fun e r => gap e.1 (e.2 :: r)) (gap last [])
def pool (es : List (Nat × CpInfo)) (last : Nat) : Array CpInfo := ⟨poolList es last⟩
def fileOf (pool : Array CpInfo) (this : Nat) (attrs : Array Attribute := #[]) (ms : Array MethodInfo := #[]) (fl : Nat := 33) (sup : Nat := 0) (ifs : Array Nat := #[]) (fds : Array FieldInfo := #[]) : ClassFile where
  minorVersion := 0
  majorVersion := 65
  constantPool := pool
  accessFlags := fl
  thisClass := this
  superClass := sup
  interfaces := ifs
  fields := fds
  methods := ms
  attributes := attrs
def plain (name : String) (sup : Option ClassId) : Class where
  name := name
  kind := .ordinary
  loader := none
  accessFlags := 33
  super := sup
  interfaces := #[]
  cf := none
  fields := #[]
  methods := #[]
  instanceTypes := #[]
  staticTypes := #[]
  resolved := #[]
  callSites := []
  init := .initialized
  statics := none
  mirror := none

def pool0 : Array CpInfo := pool [(5, u "<init>"), (0, u "()V"), (1, .class_ 10), (1, u "java/lang/Object")] 113

def k0m0 : Method := { name := "<init>", desc := "()V", sig := { parameters := [], returnType := none }, accessFlags := 1, code := none }
/-- java/lang/Object -/
def k0 : Class := { plain "java/lang/Object" none with
  accessFlags := 33
  interfaces := #[]
  cf := some (fileOf pool0 8 #[] #[{ accessFlags := 1, nameIndex := 5, descriptorIndex := 6, attributes := #[] }] 33 0 #[] #[])
  fields := #[]
  methods := #[k0m0]
  instanceTypes := #[]
  staticTypes := #[]
  resolved := Array.replicate 124 none
  statics := none }

def pool1 : Array CpInfo := pool [(2, .class_ 4), (1, u "java/lang/Object"), (0, u "<init>"), (0, u "()V"), (0, .integer 2147483647), (0, .methodref 9 10), (0, .class_ 11), (0, .nameAndType 12 13), (0, u "com/example/drienerlo/drienerlo/index/Varint"), (0, u "write"), (0, u "([BII)I"), (0, .integer 2097152), (0, .integer 268435456), (0, .methodref 17 18), (0, .class_ 19), (0, .nameAndType 20 21), (0, u "com/example/drienerlo/drienerlo/index/VarintWritePinLaw"), (0, u "ok"), (0, u "([BIIIIB)Z"), (2, u "law"), (0, u "(IIII)Z")] 5

def k1m0 : Method := { name := "<init>", desc := "()V", sig := { parameters := [], returnType := none }, accessFlags := 1, code := none }
def k1c1 : Code := { maxStack := 6, maxLocals := 10, code := code, exceptionTable := #[], attributes := #[] }
def k1m1 : Method := { name := "law", desc := "(IIII)Z", sig := { parameters := [.int, .int, .int, .int], returnType := some .boolean }, accessFlags := 9, code := some k1c1 }
def k1c2 : Code := { maxStack := 3, maxLocals := 9, code := method_3_code, exceptionTable := #[], attributes := #[] }
def k1m2 : Method := { name := "ok", desc := "([BIIIIB)Z", sig := { parameters := [(.array .byte), .int, .int, .int, .int, .byte], returnType := some .boolean }, accessFlags := 10, code := some k1c2 }
/-- com/example/drienerlo/drienerlo/index/VarintWritePinLaw -/
def k1 : Class := { plain "com/example/drienerlo/drienerlo/index/VarintWritePinLaw" (some 0) with
  accessFlags := 49
  interfaces := #[]
  cf := some (fileOf pool1 17 #[] #[{ accessFlags := 1, nameIndex := 5, descriptorIndex := 6, attributes := #[] }, { accessFlags := 9, nameIndex := 24, descriptorIndex := 25, attributes := #[] }, { accessFlags := 10, nameIndex := 20, descriptorIndex := 21, attributes := #[] }] 49 2 #[] #[])
  fields := #[]
  methods := #[k1m0, k1m1, k1m2]
  instanceTypes := #[]
  staticTypes := #[]
  resolved := Array.replicate 31 none
  statics := none }

def pool2 : Array CpInfo := pool [(2, .class_ 4), (1, u "java/lang/Object"), (0, u "<init>"), (0, u "()V"), (6, .class_ 14), (0, u "com/example/drienerlo/drienerlo/index/Varint"), (0, u "MOST_BYTES"), (0, u "I"), (4, u "write"), (0, u "([BII)I")] 5

def k2m0 : Method := { name := "<init>", desc := "()V", sig := { parameters := [], returnType := none }, accessFlags := 2, code := none }
def k2c1 : Code := { maxStack := 4, maxLocals := 5, code := prog_36_method_2_code, exceptionTable := #[], attributes := #[] }
def k2m1 : Method := { name := "write", desc := "([BII)I", sig := { parameters := [(.array .byte), .int, .int], returnType := some .int }, accessFlags := 8, code := some k2c1 }
/-- com/example/drienerlo/drienerlo/index/Varint -/
def k2 : Class := { plain "com/example/drienerlo/drienerlo/index/Varint" (some 0) with
  accessFlags := 32
  interfaces := #[]
  cf := some (fileOf pool2 13 #[] #[{ accessFlags := 2, nameIndex := 5, descriptorIndex := 6, attributes := #[] }, { accessFlags := 8, nameIndex := 21, descriptorIndex := 22, attributes := #[] }] 32 2 #[] #[{ accessFlags := 24, nameIndex := 15, descriptorIndex := 16, attributes := #[] }])
  fields := #[{ name := "MOST_BYTES", type := .int, accessFlags := 24, slot := 0, constantValue := 0 }]
  methods := #[k2m0, k2m1]
  instanceTypes := #[]
  staticTypes := #[.int]
  resolved := Array.replicate 28 none
  statics := none }

def pool3 : Array CpInfo := pool [(1, u "java/lang/Cloneable"), (0, .class_ 1), (0, u "java/lang/Object"), (0, .class_ 3)] 3

/-- java/lang/Cloneable -/
def k3 : Class := { plain "java/lang/Cloneable" (some 0) with
  accessFlags := 1537
  interfaces := #[]
  cf := some (fileOf pool3 2 #[] #[] 1537 4 #[] #[])
  fields := #[]
  methods := #[]
  instanceTypes := #[]
  staticTypes := #[]
  resolved := Array.replicate 8 none
  statics := none }

def pool4 : Array CpInfo := pool [(1, u "java/io/Serializable"), (0, .class_ 1), (0, u "java/lang/Object"), (0, .class_ 3)] 3

/-- java/io/Serializable -/
def k4 : Class := { plain "java/io/Serializable" (some 0) with
  accessFlags := 1537
  interfaces := #[]
  cf := some (fileOf pool4 2 #[] #[] 1537 4 #[] #[])
  fields := #[]
  methods := #[]
  instanceTypes := #[]
  staticTypes := #[]
  resolved := Array.replicate 8 none
  statics := none }

/-- the primitive byte -/
def k5 : Class := { plain "byte" none with kind := .primitive 'B', accessFlags := 0x411 }
/-- [B -/
def k6 : Class := { plain "[B" (some 0) with kind := .array 5 .byte, interfaces := #[3, 4], accessFlags := 1041 }

/-- the primitive int -/
def k7 : Class := { plain "int" none with kind := .primitive 'I', accessFlags := 0x411 }
/-- [I -/
def k8 : Class := { plain "[I" (some 0) with kind := .array 7 .int, interfaces := #[3, 4], accessFlags := 1041 }

def heap : Heap := #[]
def classes : Array Class := #[k0, k1, k2, k3, k4, k5, k6, k7, k8]
def interned : List (Array UInt16 × Addr) := []
def slotsUsed : Nat := 0
def theMethod : MethodId := ⟨1, 1⟩
def args0 : Array Value := #[.int 500, .int 9, .int 3, .int 1]
def aboutOver (below : List Frame) : State where
  vm := { classes := classes, interned := interned.toArray }
  heap := heap
  slotsUsed := slotsUsed
  threads := #[{ frames := .invoking theMethod args0 :: below }]
def below0 : List Frame := [.native { method := ⟨0, 0⟩, args := #[] }]
def about1 : State := aboutOver below0
def p0 : Program := .bare "" "" ""
def e0 : Env := launch0.env 0 0 0
theorem w_frames : about1.frames = Frame.invoking theMethod args0 :: below0 := rfl
set_option maxRecDepth 65536 in
theorem w_args : argsFit about1.vm theMethod args0 = true := by decide +kernel
set_option maxRecDepth 65536 in
theorem w_heap : heapFits about1 = true := by decide +kernel
set_option maxRecDepth 65536 in
theorem w_runnable : about1.curStatus? = some .runnable := by decide +kernel
set_option maxRecDepth 65536 in
theorem w_alone : about1.alone = true := by decide +kernel
set_option maxRecDepth 65536 in
theorem w_named : about1.methodNamed? x = some theMethod := by decide +kernel
set_option maxRecDepth 65536 in
theorem w_hears : about1.hears theMethod below0 = true := by decide +kernel
set_option maxRecDepth 65536 in
theorem w_ripe : about1.ripe theMethod args0 below0 = true := by decide +kernel
theorem w_running : about1.status = .running := rfl
set_option maxRecDepth 65536 in
theorem w_room : about1.hasRoom e0.platform room_1 = true :=
  launch0.hasRoom_least _ room_1 (by decide +kernel) (by decide +kernel) (by decide +kernel) (by decide +kernel) (by decide +kernel) (by decide +kernel)
theorem allAtoms_all (ts : List Jvm.Cond) (a : Array Jvm.Value) (st : Jvm.State) : (allAtoms ts).before a st = ts.all (fun c => c.before a st) := by
  induction ts with
  | nil => rfl
  | cons c t ih =>
    show (Jvm.Cond.and c (allAtoms t)).before a st = _
    rw [Jvm.Cond.before_and, ih, List.all_cons]
def words1 : List Jvm.Cond := Jvm.Cond.code x code maxLocals ret :: tables_1
/-- a 'code' word, met by the world's own term for the bytes: nothing is compared byte by byte -/
theorem code_word {y : MethodName} {bytes : ByteArray} {mx : Nat} {rt : Option FieldType} {a : Array Value} {s : State} {m : MethodId} {meth : Method} {c : Code} (h1 : s.methodNamed? y = some m) (h2 : s.vm.method? m = some meth) (h3 : meth.code = some c) (h4 : c.code = bytes)
    (h5 : (c.maxLocals == mx && c.exceptionTable.isEmpty && decide (c.maxStack ≤ mostOperands) && decide (meth.sig.returnType = rt) && !meth.locks && decide (parseMethodDescriptor y.desc = some meth.sig)) = true) : (Jvm.Cond.code y bytes mx rt).before a s = true := by
  simp only [Bool.and_eq_true, beq_iff_eq, Bool.not_eq_true', decide_eq_true_eq] at h5
  obtain ⟨⟨⟨⟨⟨g1, g2⟩, g3⟩, g4⟩, g5⟩, g6⟩ := h5
  simp [Cond.before, Cond.holds, Cond.value, h1, h2, h3, h4, g1, g2, g3, g4, g5, g6]
def isCode : Jvm.Cond → Bool
  | .code _ _ _ _ => true
  | _ => false
theorem all_split {L : List Jvm.Cond} {P : Jvm.Cond → Bool} (h1 : L.all (fun c => isCode c || P c) = true) (h2 : ∀ c ∈ L.filter isCode, P c = true) : L.all P = true := by
  refine List.all_eq_true.mpr fun c hc => ?_
  have h := List.all_eq_true.mp h1 c hc
  rcases Bool.eq_false_or_eq_true (isCode c) with hi | hi
  · exact h2 c (List.mem_filter.mpr ⟨hc, hi⟩)
  · simpa [hi] using h
set_option maxRecDepth 65536 in
theorem w_c0 : (Jvm.Cond.code x code maxLocals ret).before args0 about1 = true := code_word (m := ⟨1, 1⟩) (meth := k1m1) (c := k1c1) (by decide +kernel) rfl rfl rfl (by decide +kernel)
set_option maxRecDepth 65536 in
theorem w_c1 : (Jvm.Cond.code ({ cls := "com/example/drienerlo/drienerlo/index/Varint", name := "write", desc := "([BII)I" } : Jvm.MethodName) prog_36_method_2_code (5 : Nat) (Option.some Jvm.ClassFile.FieldType.int)).before args0 about1 = true := code_word (m := ⟨2, 1⟩) (meth := k2m1) (c := k2c1) (by decide +kernel) rfl rfl rfl (by decide +kernel)
set_option maxRecDepth 65536 in
theorem w_c2 : (Jvm.Cond.code ({ cls := "com/example/drienerlo/drienerlo/index/VarintWritePinLaw", name := "ok", desc := "([BIIIIB)Z" } : Jvm.MethodName) method_3_code (9 : Nat) (Option.some Jvm.ClassFile.FieldType.boolean)).before args0 about1 = true := code_word (m := ⟨1, 2⟩) (meth := k1m2) (c := k1c2) (by decide +kernel) rfl rfl rfl (by decide +kernel)
def codes1 : List Jvm.Cond := [Jvm.Cond.code x code maxLocals ret, Jvm.Cond.code ({ cls := "com/example/drienerlo/drienerlo/index/Varint", name := "write", desc := "([BII)I" } : Jvm.MethodName) prog_36_method_2_code (5 : Nat) (Option.some Jvm.ClassFile.FieldType.int), Jvm.Cond.code ({ cls := "com/example/drienerlo/drienerlo/index/VarintWritePinLaw", name := "ok", desc := "([BIIIIB)Z" } : Jvm.MethodName) method_3_code (9 : Nat) (Option.some Jvm.ClassFile.FieldType.boolean)]
set_option maxRecDepth 65536 in
theorem codes_eq : words1.filter isCode = codes1 := rfl
theorem w_codes : ∀ c ∈ words1.filter isCode, c.before args0 about1 = true := by
  rw [codes_eq]
  intro c hc
  simp only [codes1, List.mem_cons, List.not_mem_nil, or_false] at hc
  rcases hc with rfl | rfl | rfl
  · exact w_c0
  · exact w_c1
  · exact w_c2
set_option maxRecDepth 65536 in
theorem w_t1 : words1.all (fun c => isCode c || c.before args0 about1) = true := by decide +kernel
theorem w_tables : (allAtoms (Jvm.Cond.code x code maxLocals ret :: tables_1)).before args0 about1 = true := by
  rw [allAtoms_all]
  show words1.all (fun c => c.before args0 about1) = true
  refine all_split ?_ w_codes
  rw [w_t1]
set_option maxRecDepth 65536 in
theorem w_case : (Jvm.Cond.and given_1 narrow_1).before args0 about1 = true := by decide +kernel
theorem w_applies : (headSpec (Jvm.Cond.code x code maxLocals ret :: tables_1) room_1).applies x e0.platform about1 = true :=
  (Spec.applies_iff w_frames).mpr ⟨w_running, w_runnable, w_alone, w_named, w_hears, w_ripe, w_room, w_tables⟩
theorem atStart : AtStart classFile x code maxLocals ret World_1 tables_1 room_1 Calls_1 rest_1 Pre_1 launch0 p0 e0 about1 theMethod args0 below0 :=
  ⟨lists_1, trivial, launch0.admits_env _ _ _, launch0.least_env, fairChoices_fair.cas, fairChoices_fair.clock, w_frames, w_args, w_heap, w_applies, trivial, trivial, w_case⟩
end start1
theorem witness_1 : WitnessClaimed_1 := ⟨start1.p0, start1.e0, start1.about1, start1.theMethod, start1.args0, start1.below0, start1.atStart⟩
end Jvm.Pilot.@@N@@
