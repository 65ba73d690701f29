import PyProof.Rows.All
import Wide.All
import OpenK.AllK
import Wide.FinOn
import Lean
import PySem.Challenge.RW_ec5008_02
set_option Elab.async false
section
open PySem PySem.W PyProof.Rows
set_option Elab.async false
set_option maxRecDepth 100000
set_option maxHeartbeats 8000000
namespace Mine
open_top hd for PySem.Challenge.rw_ec5008_02
end Mine
end

section
open PySem PySem.Sre
set_option Elab.async false
set_option linter.unusedVariables false
namespace Mine

/-- the parts of a run that do not turn -/
structure Cx where
  code : Array Nat
  text : Array Nat
  lim : Nat
  start : Nat
  lastStart : Nat

@[reducible] def St (C : Cx) (pc pos handed : Nat) (ob : Bool) (mk : Array (Option Nat)) (lm li : Int) (lp : Array Loop) (inn : Option Nat)
    (fr : List Sre.Frame) (wt : Nat) (an : Option Bool) (sn : Seen) : M :=
  { code := C.code, text := C.text, lim := C.lim, start := C.start, lastStart := C.lastStart, mustAdvance := false,
    pc, pos, handed, outermost := ob, marks := mk, lastmark := lm, lastindex := li, loops := lp, inner := inn, frames := fr, weight := wt,
    answer := an, seen := sn, outcome := none }

def stepN : Nat → M → M
  | 0, m => m
  | n + 1, m => stepN n m.step

theorem stepN_add (a b : Nat) (m : M) : stepN (a + b) m = stepN b (stepN a m) := by
  induction a generalizing m with
  | zero => simp [stepN]
  | succ a ih => rw [Nat.succ_add]; simp only [stepN]; exact ih _

theorem stepN_one (m : M) : stepN 1 m = m.step := rfl

theorem runFor_stepN (n : Nat) (m : M) : M.runFor n m = stepN n m := by
  induction n generalizing m with
  | zero => rfl
  | succ n ih =>
    unfold M.runFor stepN
    by_cases h : m.outcome.isSome = true
    · rw [if_pos h]
      have hs : m.step = m := by unfold M.step; rw [if_pos h]
      rw [hs]
      clear ih
      induction n with
      | zero => rfl
      | succ n ih2 => unfold stepN; rw [hs]; exact ih2
    · rw [if_neg h]; exact ih _

def Vis (mk : Array (Option Nat)) (sz : Nat) (lm : Int) (V : Nat → Option Nat) : Prop := mk.size = sz ∧ ∀ i : Nat, (i : Int) ≤ lm → mk.getD i none = V i

def top : Nat := 16777216

structure Got where
  e : Nat
  lm : Int
  V : Nat → Option Nat

def FailsM (C : Cx) (c sz : Nat) (V : Nat → Option Nat) (lm : Int) (lp : Array Loop) (inn : Option Nat) (fr : List Sre.Frame) (wt : Nat) (m : M) : Prop :=
  ∃ n, n ≤ c ∧ ∃ pc' pos' hd' ob' mk' lm' li' sn', stepN n m = St C pc' pos' hd' ob' mk' lm' li' lp inn fr wt (some false) sn' ∧ Vis mk' sz lm V
def WinsM (C : Cx) (c sz : Nat) (fr : List Sre.Frame) (wt : Nat) (g : Got) (m : M) : Prop :=
  ∃ n, n ≤ c ∧ ∃ pc' pos' ob' mk' li' lp' inn' sn', stepN n m = St C pc' pos' g.e ob' mk' g.lm li' lp' inn' fr wt (some true) sn' ∧ Vis mk' sz g.lm g.V
def EndsM (C : Cx) (c sz : Nat) (V : Nat → Option Nat) (lm : Int) (lp : Array Loop) (inn : Option Nat) (fr : List Sre.Frame) (wt : Nat) (m : M) : Option Got → Prop
  | none => FailsM C c sz V lm lp inn fr wt m
  | some g => WinsM C c sz fr wt g m

def Ends (C : Cx) (c B pc pos sz : Nat) (V : Nat → Option Nat) (lm : Int) (lp : Array Loop) (inn : Option Nat) (r : Option Got) : Prop :=
  ∀ (ob : Bool) (hd : Nat) (li : Int) (mk : Array (Option Nat)) (fr : List Sre.Frame) (wt : Nat) (sn : Seen), Vis mk sz lm V → wt + B ≤ top →
    EndsM C c sz V lm lp inn fr wt (St C pc pos hd ob mk lm li lp inn fr wt none sn) r

variable {C : Cx} {pc pos hd c B sz : Nat} {V : Nat → Option Nat} {ob : Bool} {mk : Array (Option Nat)} {lm li : Int} {lp : Array Loop} {inn : Option Nat} {fr : List Sre.Frame} {wt : Nat} {sn : Seen} {r : Option Got}

theorem EndsM.mono {c' : Nat} {m : M} (h : EndsM C c sz V lm lp inn fr wt m r) (hc : c ≤ c') : EndsM C c' sz V lm lp inn fr wt m r := by
  cases r with
  | none => obtain ⟨n, hn, r⟩ := h; exact ⟨n, by omega, r⟩
  | some g => obtain ⟨n, hn, r⟩ := h; exact ⟨n, by omega, r⟩

theorem Ends.mono {c' B' : Nat} (h : Ends C c B pc pos sz V lm lp inn r) (hc : c ≤ c') (hB : B ≤ B') : Ends C c' B' pc pos sz V lm lp inn r :=
  fun ob hd li mk fr wt sn hv hw => (h ob hd li mk fr wt sn hv (by omega)).mono hc

theorem EndsM.steps {m m' : M} {k : Nat} (e : stepN k m = m') (h : EndsM C c sz V lm lp inn fr wt m' r) : EndsM C (k + c) sz V lm lp inn fr wt m r := by
  cases r with
  | none => obtain ⟨n, hn, a1, a2, a3, a4, a5, a6, a7, a8, e2, v⟩ := h; exact ⟨k + n, by omega, a1, a2, a3, a4, a5, a6, a7, a8, by rw [stepN_add, e, e2], v⟩
  | some g => obtain ⟨n, hn, a1, a2, a3, a4, a5, a6, a7, a8, e2, v⟩ := h; exact ⟨k + n, by omega, a1, a2, a3, a4, a5, a6, a7, a8, by rw [stepN_add, e, e2], v⟩

/-- one step ahead, the ledger of marks may grow -/
theorem Ends.step {pc1 pos1 : Nat} {V1 : Nat → Option Nat} {lm1 : Int} (h : Ends C c B pc1 pos1 sz V1 lm1 lp inn r) (hle : lm ≤ lm1) (hV : ∀ i : Nat, (i : Int) ≤ lm → V1 i = V i)
    (hs : ∀ ob hd li mk fr wt sn, Vis mk sz lm V → ∃ ob1 hd1 li1 mk1 sn1, (St C pc pos hd ob mk lm li lp inn fr wt none sn).step = St C pc1 pos1 hd1 ob1 mk1 lm1 li1 lp inn fr wt none sn1 ∧ Vis mk1 sz lm1 V1) :
    Ends C (c + 1) B pc pos sz V lm lp inn r := by
  intro ob hd li mk fr wt sn hv hw
  obtain ⟨ob1, hd1, li1, mk1, sn1, e1, hv1⟩ := hs ob hd li mk fr wt sn hv
  rw [Nat.add_comm]
  refine EndsM.steps (k := 1) (by rw [stepN_one, e1]) ?_
  have h := h ob1 hd1 li1 mk1 fr wt sn1 hv1 hw
  cases r with
  | none => obtain ⟨n, hn, a1, a2, a3, a4, a5, a6, a7, a8, e2, hv2⟩ := h; exact ⟨n, hn, a1, a2, a3, a4, a5, a6, a7, a8, e2, hv2.1, fun i hi => (hv2.2 i (by omega)).trans (hV i hi)⟩
  | some g => exact h

theorem fails_now {pc' pos' hd' : Nat} {ob' : Bool} {mk' : Array (Option Nat)} {lm' li' : Int} {sn' : Seen} (hv : Vis mk' sz lm V) :
    EndsM C 0 sz V lm lp inn fr wt (St C pc' pos' hd' ob' mk' lm' li' lp inn fr wt (some false) sn') none :=
  ⟨0, Nat.le_refl _, pc', pos', hd', ob', mk', lm', li', sn', rfl, hv⟩

theorem fails_step (hs : ∀ ob hd li mk fr wt sn, ∃ sn1, (St C pc pos hd ob mk lm li lp inn fr wt none sn).step = St C pc pos hd ob mk lm li lp inn fr wt (some false) sn1) :
    Ends C 1 0 pc pos sz V lm lp inn none := by
  intro ob hd li mk fr wt sn hv hw
  obtain ⟨sn1, e1⟩ := hs ob hd li mk fr wt sn
  exact EndsM.steps (k := 1) (c := 0) (by rw [stepN_one, e1]) (fails_now hv)

theorem step_run (hpc : pc < C.code.size) : (St C pc pos hd ob mk lm li lp inn fr wt none sn).step = (St C pc pos hd ob mk lm li lp inn fr wt none sn).exec := by
  unfold M.step; simp [hpc]

/-- the set or sign at pc takes just the signs of f -/
def Acc (C : Cx) (pc : Nat) (f : Nat → Bool) : Prop := ∀ (ch : Nat) (sn : Seen), ∃ sn', accepts C.code pc ch sn = .ok (f ch, sn')

def oneOp (o : Nat) : Bool := o == 13 || o == 16 || o == 31 || o == 32

theorem step_one {f : Nat → Bool} {b : Bool} (hpc : pc < C.code.size) (ho : oneOp (C.code.getD pc 0) = true) (hp : pos < C.lim) (ha : Acc C pc f) (hb : f (C.text.getD pos 0) = b) :
    ∃ sn', (St C pc pos hd ob mk lm li lp inn fr wt none sn).step = if b then St C (pc + itemWidth C.code pc) (pos + 1) hd ob mk lm li lp inn fr wt none sn'
      else St C pc pos hd ob mk lm li lp inn fr wt (some false) sn' := by
  rw [step_run hpc]
  obtain ⟨sn', ha⟩ := ha (C.text.getD pos 0) (sn.add (C.code.getD pc 0))
  rw [hb] at ha
  refine ⟨sn', ?_⟩
  unfold M.exec
  have : C.code.getD pc 0 = 13 ∨ C.code.getD pc 0 = 16 ∨ C.code.getD pc 0 = 31 ∨ C.code.getD pc 0 = 32 := by
    simp only [oneOp, Bool.or_eq_true, beq_iff_eq] at ho; omega
  have e13 : (ops[(13:Nat)]? : Option Op) = some .IN := rfl
  have e16 : (ops[(16:Nat)]? : Option Op) = some .LITERAL := rfl
  have e31 : (ops[(31:Nat)]? : Option Op) = some .IN_IGNORE := rfl
  have e32 : (ops[(32:Nat)]? : Option Op) = some .LITERAL_IGNORE := rfl
  rcases this with h | h | h | h <;> rw [h] at ha <;>
  · simp only [M.word, Nat.add_zero, h, e13, e16, e31, e32]
    simp only [ha]
    cases b <;> simp [Nat.not_le.mpr hp, M.say]

theorem step_one_end (hpc : pc < C.code.size) (ho : oneOp (C.code.getD pc 0) = true) (hp : C.lim ≤ pos) :
    ∃ sn', (St C pc pos hd ob mk lm li lp inn fr wt none sn).step = St C pc pos hd ob mk lm li lp inn fr wt (some false) sn' := by
  rw [step_run hpc]
  refine ⟨sn.add (C.code.getD pc 0), ?_⟩
  unfold M.exec
  have : C.code.getD pc 0 = 13 ∨ C.code.getD pc 0 = 16 ∨ C.code.getD pc 0 = 31 ∨ C.code.getD pc 0 = 32 := by
    simp only [oneOp, Bool.or_eq_true, beq_iff_eq] at ho; omega
  have e13 : (ops[(13:Nat)]? : Option Op) = some .IN := rfl
  have e16 : (ops[(16:Nat)]? : Option Op) = some .LITERAL := rfl
  have e31 : (ops[(31:Nat)]? : Option Op) = some .IN_IGNORE := rfl
  have e32 : (ops[(32:Nat)]? : Option Op) = some .LITERAL_IGNORE := rfl
  rcases this with h | h | h | h <;>
  · simp only [M.word, Nat.add_zero, h, e13, e16, e31, e32]
    simp [hp, M.say]

/-- the sign at a place, if there is one, is one of f's -/
def at? (C : Cx) (f : Nat → Bool) (pos : Nat) : Bool := decide (pos < C.lim) && f (C.text.getD pos 0)

theorem ends_one {f : Nat → Bool} {w : Nat} (hpc : pc < C.code.size) (ho : oneOp (C.code.getD pc 0) = true) (ha : Acc C pc f) (hw : itemWidth C.code pc = w) (ht : at? C f pos = true)
    (h : Ends C c B (pc + w) (pos + 1) sz V lm lp inn r) : Ends C (c + 1) B pc pos sz V lm lp inn r := by
  simp only [at?, Bool.and_eq_true, decide_eq_true_eq] at ht
  refine Ends.step h (Int.le_refl _) (fun _ _ => rfl) fun ob hd li mk fr wt sn hv => ?_
  obtain ⟨sn', e⟩ := step_one (hd := hd) (ob := ob) (mk := mk) (lm := lm) (li := li) (lp := lp) (inn := inn) (fr := fr) (wt := wt) (sn := sn) hpc ho ht.1 ha ht.2
  rw [hw] at e
  exact ⟨ob, hd, li, mk, sn', e, hv⟩

theorem ends_one_not {f : Nat → Bool} (hpc : pc < C.code.size) (ho : oneOp (C.code.getD pc 0) = true) (ha : Acc C pc f) (ht : at? C f pos = false) :
    Ends C 1 0 pc pos sz V lm lp inn none := by
  refine fails_step fun ob hd li mk fr wt sn => ?_
  by_cases hp : pos < C.lim
  · simp only [at?, hp, decide_true, Bool.true_and] at ht
    exact step_one hpc ho hp ha ht
  · exact step_one_end hpc ho (by omega)

theorem ends_at {k : Nat} (hpc : pc < C.code.size) (ho : C.code.getD pc 0 = 6) (hk : C.code.getD (pc + 1) 0 = k)
    (hat : ∀ m : M, m.pos = pos → m.lim = C.lim → m.text = C.text → m.isAt k = .ok true)
    (h : Ends C c B (pc + 2) pos sz V lm lp inn r) : Ends C (c + 1) B pc pos sz V lm lp inn r := by
  refine Ends.step h (Int.le_refl _) (fun _ _ => rfl) fun ob hd li mk fr wt sn hv => ?_
  refine ⟨ob, hd, li, mk, (sn.add 6).add (43 + k), ?_, hv⟩
  rw [step_run hpc]
  unfold M.exec
  have e6 : (ops[(6:Nat)]? : Option Op) = some .AT := rfl
  simp only [M.word, Nat.add_zero, ho, e6, hk]
  rw [hat _ rfl rfl rfl]
  rfl

theorem ends_at_not {k : Nat} (hpc : pc < C.code.size) (ho : C.code.getD pc 0 = 6) (hk : C.code.getD (pc + 1) 0 = k)
    (hat : ∀ m : M, m.pos = pos → m.lim = C.lim → m.text = C.text → m.isAt k = .ok false) : Ends C 1 0 pc pos sz V lm lp inn none := by
  refine fails_step fun ob hd li mk fr wt sn => ?_
  refine ⟨(sn.add 6).add (43 + k), ?_⟩
  rw [step_run hpc]
  unfold M.exec
  have e6 : (ops[(6:Nat)]? : Option Op) = some .AT := rfl
  simp only [M.word, Nat.add_zero, ho, e6, hk]
  rw [hat _ rfl rfl rfl]
  rfl

theorem ends_jump {k : Nat} (hpc : pc < C.code.size) (ho : C.code.getD pc 0 = 15) (hk : C.code.getD (pc + 1) 0 = k)
    (h : Ends C c B (pc + 1 + k) pos sz V lm lp inn r) : Ends C (c + 1) B pc pos sz V lm lp inn r := by
  refine Ends.step h (Int.le_refl _) (fun _ _ => rfl) fun ob hd li mk fr wt sn hv => ?_
  refine ⟨ob, hd, li, mk, sn.add 15, ?_, hv⟩
  rw [step_run hpc]
  unfold M.exec
  have e : (ops[(15:Nat)]? : Option Op) = some .JUMP := rfl
  simp only [M.word, Nat.add_zero, ho, e, hk]

def setV (V : Nat → Option Nat) (lm : Int) (i pos : Nat) : Nat → Option Nat := fun j => if j = i then some pos else if (j : Int) ≤ lm then V j else none

theorem clear_foldl (i : Nat) (lm : Int) (a : Array (Option Nat)) : ((List.range i).foldl (fun (a : Array (Option Nat)) (j : Nat) => if (j : Int) > lm then a.setIfInBounds j none else a) a).size = a.size ∧
    ∀ j, ((List.range i).foldl (fun (a : Array (Option Nat)) (j : Nat) => if (j : Int) > lm then a.setIfInBounds j none else a) a).getD j none = if j < i ∧ lm < (j : Int) then none else a.getD j none := by
  induction i with
  | zero => simp
  | succ i ih =>
    rw [List.range_succ, List.foldl_append]
    simp only [List.foldl_cons, List.foldl_nil]
    obtain ⟨h1, h2⟩ := ih
    generalize (List.range i).foldl (fun (a : Array (Option Nat)) (j : Nat) => if (j : Int) > lm then a.setIfInBounds j none else a) a = b at h1 h2
    by_cases hi : (i : Int) > lm
    · rw [if_pos hi]
      refine ⟨by simp [h1], fun j => ?_⟩
      by_cases hj : j = i
      · subst hj
        rw [if_pos ⟨Nat.lt_succ_self _, hi⟩]
        simp only [Array.getD_eq_getD_getElem?]
        rw [Array.getElem?_setIfInBounds]
        simp only [if_true]
        split <;> rfl
      · have : (b.setIfInBounds i none).getD j none = b.getD j none := by
          simp only [Array.getD_eq_getD_getElem?]
          rw [Array.getElem?_setIfInBounds]
          rw [if_neg (Ne.symm hj)]
        rw [this, h2 j]
        by_cases hc : j < i ∧ lm < (j : Int)
        · rw [if_pos hc, if_pos ⟨Nat.lt_succ_of_lt hc.1, hc.2⟩]
        · rw [if_neg hc, if_neg (by omega)]
    · rw [if_neg hi]
      refine ⟨h1, fun j => ?_⟩
      rw [h2 j]
      by_cases hc : j < i ∧ lm < (j : Int)
      · rw [if_pos hc, if_pos ⟨Nat.lt_succ_of_lt hc.1, hc.2⟩]
      · rw [if_neg hc, if_neg (by omega)]

theorem ends_mark {i : Nat} (hpc : pc < C.code.size) (ho : C.code.getD pc 0 = 17) (hk : C.code.getD (pc + 1) 0 = i) (hi : lm < (i : Int)) (hz : i < sz)
    (h : Ends C c B (pc + 2) pos sz (setV V lm i pos) i lp inn r) : Ends C (c + 1) B pc pos sz V lm lp inn r := by
  refine Ends.step h (by omega) (fun j hj => ?_) fun ob hd li mk fr wt sn hv => ?_
  · unfold setV
    rw [if_neg (by omega), if_pos hj]
  · refine ⟨ob, hd, (if i % 2 == 1 then ((i / 2 + 1 : Nat) : Int) else li), (M.mark (St C pc pos hd ob mk lm li lp inn fr wt none (sn.add 17)) i).marks, sn.add 17, ?_, ?_⟩
    · rw [step_run hpc]
      unfold M.exec
      have e : (ops[(17:Nat)]? : Option Op) = some .MARK := rfl
      simp only [M.word, Nat.add_zero, ho, e, hk]
      have hmx : max lm (i : Int) = i := by omega
      unfold M.mark
      simp only [hmx]
    · unfold M.mark
      dsimp only
      obtain ⟨h1, h2⟩ := hv
      have key : ∀ a : Array (Option Nat), a.size = sz → (∀ j : Nat, j < i → a.getD j none = if (j : Int) ≤ lm then V j else none) → Vis (a.setIfInBounds i (some pos)) sz (i : Int) (setV V lm i pos) := by
        intro a ha hj
        refine ⟨by simp [ha], fun j hji => ?_⟩
        unfold setV
        simp only [Array.getD_eq_getD_getElem?]
        rw [Array.getElem?_setIfInBounds]
        by_cases e : j = i
        · subst e; simp [ha, hz]
        · rw [if_neg (Ne.symm e), if_neg e, ← Array.getD_eq_getD_getElem?, hj j (by omega)]
      by_cases hc : (i : Int) ≤ lm + 1
      · rw [if_pos hc]
        exact key mk h1 fun j hj => by rw [if_pos (by omega)]; exact h2 j (by omega)
      · rw [if_neg hc]
        obtain ⟨c1, c2⟩ := clear_foldl i lm mk
        refine key _ (c1.trans h1) fun j hj => ?_
        rw [c2 j]
        by_cases q : (j : Int) ≤ lm
        · rw [if_neg (by omega), if_pos q]; exact h2 j q
        · rw [if_pos ⟨hj, by omega⟩, if_neg q]

theorem ends_success (hpc : pc < C.code.size) (ho : C.code.getD pc 0 = 1) : Ends C 1 0 pc pos sz V lm lp inn (some ⟨pos, lm, V⟩) := by
  intro ob hd li mk fr wt sn hv hw2
  refine ⟨1, Nat.le_refl _, pc, pos, ob, mk, li, lp, inn, sn.add 1, ?_, hv⟩
  rw [stepN_one, step_run hpc]
  unfold M.exec
  have e : (ops[(1:Nat)]? : Option Op) = some .SUCCESS := rfl
  simp only [M.word, Nat.add_zero, ho, e]
  simp only [Bool.false_and, Bool.or_false, Bool.and_false, Bool.false_eq_true, if_false]
  rfl

/-- frames that hand a match on -/
def passes (f : Sre.Frame) : Prop := match f.wait with
  | .nextStart | .nextBranch | .giveBack | .closeLoop | .maxMore | .maxTail => True
  | _ => False

theorem resume_true {f : Sre.Frame} (hf : passes f) : ∃ lp' inn', (St C pc pos hd ob mk lm li lp inn (f :: fr) (wt + 1 + f.kept.marks.size) (some true) sn).step
    = St C f.pc f.pos hd f.outermost mk lm li lp' inn' fr wt (some true) sn := by
  unfold M.step
  obtain ⟨w, fpc, fpos, fo, fc, fk, fl, fb⟩ := f
  have hw : wt + 1 + fk.marks.size - (1 + fk.marks.size) = wt := by omega
  cases w <;> simp only [passes] at hf <;> simp only [hw] <;> exact ⟨_, _, rfl⟩

theorem step_false {f : Sre.Frame} : (St C pc pos hd ob mk lm li lp inn (f :: fr) (wt + 1 + f.kept.marks.size) (some false) sn).step
    = M.resume (St C f.pc f.pos hd f.outermost mk lm li lp inn fr wt none sn) f false := by
  unfold M.step
  have hw : wt + 1 + f.kept.marks.size - (1 + f.kept.marks.size) = wt := by omega
  simp only [hw]
  rfl

theorem attempt_eq {f : Sre.Frame} {tg fm : Nat} {ob2 : Bool} (hw : wt + 1 + f.kept.marks.size ≤ top) :
    M.attempt (St C pc pos hd ob mk lm li lp inn fr wt none sn) f tg fm ob2 = St C tg fm fm ob2 mk lm li lp inn (f :: fr) (wt + 1 + f.kept.marks.size) none sn := by
  unfold M.attempt
  rw [if_neg (by unfold top at hw; simpa using hw)]

theorem push_win {f : Sre.Frame} {tg fm : Nat} {ob2 : Bool} {g : Got} {lp0 : Array Loop} {inn0 : Option Nat} {V0 : Nat → Option Nat} {lm0 : Int} (hf : passes f) (hk : f.kept.marks.size ≤ sz) (hv : Vis mk sz lm V) (hw : wt + (B + 1 + sz) ≤ top)
    (h : Ends C c B tg fm sz V lm lp inn (some g)) : EndsM C (c + 1) sz V0 lm0 lp0 inn0 fr wt (M.attempt (St C pc pos hd ob mk lm li lp inn fr wt none sn) f tg fm ob2) (some g) := by
  rw [attempt_eq (by omega)]
  obtain ⟨n, hn, a1, a2, a3, a4, a5, a6, a7, a8, e2, hv2⟩ := h ob2 fm li mk (f :: fr) (wt + 1 + f.kept.marks.size) sn hv (by omega)
  obtain ⟨lp', inn', e3⟩ := resume_true (C := C) (pc := a1) (pos := a2) (hd := g.e) (ob := a3) (mk := a4) (lm := g.lm) (li := a5) (lp := a6) (inn := a7) (fr := fr) (wt := wt) (sn := a8) hf
  exact ⟨n + 1, by omega, f.pc, f.pos, f.outermost, a4, a5, lp', inn', a8, by rw [stepN_add, e2, stepN_one, e3], hv2⟩

theorem push_fail {f : Sre.Frame} {tg fm c2 : Nat} {ob2 : Bool} {lp0 : Array Loop} {inn0 : Option Nat} {V0 : Nat → Option Nat} {lm0 : Int} (hk : f.kept.marks.size ≤ sz) (hv : Vis mk sz lm V) (hw : wt + (B + 1 + sz) ≤ top)
    (h : Ends C c B tg fm sz V lm lp inn none)
    (h2 : ∀ hd' mk' lm' li' sn', Vis mk' sz lm V → EndsM C c2 sz V0 lm0 lp0 inn0 fr wt (M.resume (St C f.pc f.pos hd' f.outermost mk' lm' li' lp inn fr wt none sn') f false) r) :
    EndsM C (c + 1 + c2) sz V0 lm0 lp0 inn0 fr wt (M.attempt (St C pc pos hd ob mk lm li lp inn fr wt none sn) f tg fm ob2) r := by
  rw [attempt_eq (by omega)]
  obtain ⟨n, hn, a1, a2, a3, a4, a5, a6, a7, a8, e2, hv2⟩ := h ob2 fm li mk (f :: fr) (wt + 1 + f.kept.marks.size) sn hv (by omega)
  refine (EndsM.steps (k := n + 1) ?_ (h2 a3 a5 a6 a7 a8 hv2)).mono (by omega)
  rw [stepN_add, e2, stepN_one, step_false]

def KOk (k : Sre.Kept) (sz : Nat) (V : Nat → Option Nat) (lm : Int) : Prop := k.lastmark = lm ∧ k.marks.size ≤ sz ∧ ∀ i, i < k.marks.size → k.marks.getD i none = V i

theorem keep_ok {w : Bool} (hv : Vis mk sz lm V) : KOk (M.keep (St C pc pos hd ob mk lm li lp inn fr wt none sn) w) sz V lm := by
  refine ⟨rfl, ?_, ?_⟩
  · unfold M.keep; cases w
    · simp
    · simp; have := hv.1; omega
  · intro i hi
    unfold M.keep at hi ⊢
    cases w
    · simp at hi
    · simp only [if_true] at hi ⊢
      simp only [Array.size_extract, Nat.sub_zero] at hi
      rw [← hv.2 i (by omega)]
      simp only [Array.getD_eq_getD_getElem?]
      congr 1
      rw [Array.getElem?_extract]
      simp only [Nat.sub_zero, Nat.zero_add]
      rw [if_pos (by omega)]

theorem putBack_eq {k : Sre.Kept} (hk : KOk k sz V lm) {mk' : Array (Option Nat)} (hv : Vis mk' sz lm V) : ∃ mk2, M.putBack (St C pc pos hd ob mk' lm2 li lp inn fr wt none sn) k = St C pc pos hd ob mk2 lm k.lastindex lp inn fr wt none sn ∧ Vis mk2 sz lm V := by
  obtain ⟨k1, k2, k3⟩ := hk
  unfold M.putBack
  refine ⟨_, by rw [k1], ?_⟩
  dsimp only
  split
  · refine ⟨by simp; have := hv.1; omega, fun i hi => ?_⟩
    by_cases q : i < k.marks.size
    · rw [← k3 i q]; simp only [Array.getD_eq_getD_getElem?]; rw [Array.getElem?_append_left q]
    · rw [← hv.2 i hi]; simp only [Array.getD_eq_getD_getElem?]; rw [Array.getElem?_append_right (by omega)]
      rw [Array.getElem?_extract]
      by_cases q2 : i < mk'.size
      · rw [if_pos (by omega)]; congr 2; omega
      · rw [if_neg (by omega), Array.getElem?_eq_none (by omega)]
  · exact hv

def Alts (C : Cx) (c B alt pos sz : Nat) (V : Nat → Option Nat) (lm : Int) (lp : Array Loop) (inn : Option Nat) (r : Option Got) : Prop :=
  ∀ (pc : Nat) (ob : Bool) (hd : Nat) (li : Int) (mk : Array (Option Nat)) (fr : List Sre.Frame) (wt : Nat) (sn : Seen) (k : Sre.Kept), Vis mk sz lm V → KOk k sz V lm → wt + B ≤ top →
    EndsM C c sz V lm lp inn fr wt (M.alternative (St C pc pos hd ob mk lm li lp inn fr wt none sn) alt k) r

theorem alts_nil {alt : Nat} (h0 : C.code.getD alt 0 = 0) : Alts C 0 0 alt pos sz V lm lp inn none := by
  intro pc ob hd li mk fr wt sn k hv hk hw
  unfold M.alternative
  simp only [h0]
  exact fails_now hv

theorem alts_win {alt d : Nat} {g : Got} (hd0 : C.code.getD alt 0 = d + 1) (h : Ends C c B (alt + 1) pos sz V lm lp inn (some g)) : Alts C (c + 1) (B + 1 + sz) alt pos sz V lm lp inn (some g) := by
  intro pc ob hd li mk fr wt sn k hv hk hw
  unfold M.alternative
  simp only [hd0]
  exact push_win (f := { M.frame (St C pc pos hd ob mk lm li lp inn fr wt none sn) .nextBranch with pc := alt, kept := k }) trivial hk.2.1 hv hw h

theorem alts_next {alt d c2 B2 : Nat} (hd0 : C.code.getD alt 0 = d + 1) (h : Ends C c B (alt + 1) pos sz V lm lp inn none) (h2 : Alts C c2 B2 (alt + (d + 1)) pos sz V lm lp inn r) (hB : B2 ≤ B + 1 + sz) :
    Alts C (c + 1 + c2) (B + 1 + sz) alt pos sz V lm lp inn r := by
  intro pc ob hd li mk fr wt sn k hv hk hw
  unfold M.alternative
  simp only [hd0]
  refine push_fail (f := { M.frame (St C pc pos hd ob mk lm li lp inn fr wt none sn) .nextBranch with pc := alt, kept := k }) (B := B) hk.2.1 hv hw h ?_
  intro hd' mk' lm' li' sn' hv'
  unfold M.resume
  dsimp only [M.frame]
  obtain ⟨mk2, e, hv2⟩ := putBack_eq (C := C) (pc := alt) (pos := pos) (hd := hd') (ob := ob) (lm2 := lm') (li := li') (lp := lp) (inn := inn) (fr := fr) (wt := wt) (sn := sn') hk hv'
  rw [e, hd0]
  exact h2 alt ob hd' k.lastindex mk2 fr wt sn' k hv2 hk (by omega)

theorem ends_branch (hpc : pc < C.code.size) (ho : C.code.getD pc 0 = 7) (h : Alts C c B (pc + 1) pos sz V lm lp inn r) : Ends C (1 + c) B pc pos sz V lm lp inn r := by
  intro ob hd li mk fr wt sn hv hw
  refine EndsM.steps (k := 1) (m' := M.alternative (St C pc pos hd ob mk lm li lp inn fr wt none (sn.add 7)) (pc + 1) (M.keep (St C pc pos hd ob mk lm li lp inn fr wt none (sn.add 7)) inn.isSome)) ?_ ?_
  · rw [stepN_one, step_run hpc]
    unfold M.exec
    have e : (ops[(7:Nat)]? : Option Op) = some .BRANCH := rfl
    simp only [M.word, Nat.add_zero, ho, e]
  · exact h pc ob hd li mk fr wt _ _ hv (keep_ok hv) hw

/-- how many signs of f stand from p on, n at most -/
def runLen (C : Cx) (f : Nat → Bool) : Nat → Nat → Nat
  | 0, _ => 0
  | n + 1, p => if f (C.text.getD p 0) then runLen C f n (p + 1) + 1 else 0

theorem run_eq {f : Nat → Bool} {i : Nat} (ha : Acc C i f) : ∀ (n p found : Nat) (sn : Seen), ∃ sn', Sre.run C.code C.text i n p found sn = .ok (found + runLen C f n p, sn') := by
  intro n
  induction n with
  | zero => intro p found sn; exact ⟨sn, rfl⟩
  | succ n ih =>
    intro p found sn
    obtain ⟨sn', e⟩ := ha (C.text.getD p 0) sn
    cases hf : f (C.text.getD p 0) with
    | true =>
      obtain ⟨sn2, e2⟩ := ih (p + 1) (found + 1) sn'
      refine ⟨sn2, ?_⟩
      have e3 : found + runLen C f (n + 1) p = found + 1 + runLen C f n (p + 1) := by rw [show runLen C f (n + 1) p = runLen C f n (p + 1) + 1 from by rw [runLen, if_pos hf]]; omega
      rw [e3, ← e2]
      show (accepts C.code i (C.text.getD p 0) sn >>= fun x => if x.1 = true then Sre.run C.code C.text i n (p + 1) (found + 1) x.2 else pure (found, x.2)) = _
      rw [e, hf]
      rfl
    | false =>
      refine ⟨sn', ?_⟩
      unfold Sre.run runLen
      rw [e]
      simp only [hf]
      rfl

def Gives (C : Cx) (c B pc p0 n sz : Nat) (V : Nat → Option Nat) (lm : Int) (lp : Array Loop) (inn : Option Nat) (r : Option Got) : Prop :=
  ∀ (ob : Bool) (hd : Nat) (li : Int) (mk : Array (Option Nat)) (fr : List Sre.Frame) (wt : Nat) (sn : Seen) (k : Sre.Kept), Vis mk sz lm V → KOk k sz V lm → wt + B ≤ top →
    EndsM C c sz V lm lp inn fr wt (M.afterRun (St C pc (p0 + n) hd ob mk lm li lp inn fr wt none sn) .giveBack (n : Int) k) r

theorem gives_win {p0 n sk : Nat} {g : Got} (hk1 : C.code.getD (pc + 1) 0 = sk) (h : Ends C c B (pc + 1 + sk) (p0 + n) sz V lm lp inn (some g)) : Gives C (c + 1) (B + 1 + sz) pc p0 n sz V lm lp inn (some g) := by
  intro ob hd li mk fr wt sn k hv hk hw
  unfold M.afterRun
  simp only [M.word, hk1]
  exact push_win (f := { M.frame (St C pc (p0 + n) hd ob mk lm li lp inn fr wt none sn) .giveBack with count := (n : Int), kept := k }) trivial hk.2.1 hv hw h

theorem gives_last {p0 n sk least : Nat} (hk1 : C.code.getD (pc + 1) 0 = sk) (hk2 : C.code.getD (pc + 2) 0 = least) (hn : n = least) (h : Ends C c B (pc + 1 + sk) (p0 + n) sz V lm lp inn none) :
    Gives C (c + 1) (B + 1 + sz) pc p0 n sz V lm lp inn none := by
  intro ob hd li mk fr wt sn k hv hk hw
  unfold M.afterRun
  simp only [M.word, hk1]
  refine push_fail (c2 := 0) (f := { M.frame (St C pc (p0 + n) hd ob mk lm li lp inn fr wt none sn) .giveBack with count := (n : Int), kept := k }) (B := B) hk.2.1 hv hw h ?_
  intro hd' mk' lm' li' sn' hv'
  unfold M.resume
  dsimp only [M.frame]
  obtain ⟨mk2, e, hv2⟩ := putBack_eq (C := C) (pc := pc) (pos := p0 + n) (hd := hd') (ob := ob) (lm2 := lm') (li := li') (lp := lp) (inn := inn) (fr := fr) (wt := wt) (sn := sn') hk hv'
  rw [e]
  simp only [M.word, hk2, Bool.false_eq_true, if_false]
  rw [if_pos (by omega)]
  exact fails_now hv2

theorem gives_next {p0 n sk least c2 B2 : Nat} (hk1 : C.code.getD (pc + 1) 0 = sk) (hk2 : C.code.getD (pc + 2) 0 = least) (hn : least ≤ n) (h : Ends C c B (pc + 1 + sk) (p0 + (n + 1)) sz V lm lp inn none)
    (h2 : Gives C c2 B2 pc p0 n sz V lm lp inn r) (hB : B2 ≤ B + 1 + sz) : Gives C (c + 1 + c2) (B + 1 + sz) pc p0 (n + 1) sz V lm lp inn r := by
  intro ob hd li mk fr wt sn k hv hk hw
  unfold M.afterRun
  simp only [M.word, hk1]
  refine push_fail (c2 := c2) (f := { M.frame (St C pc (p0 + (n + 1)) hd ob mk lm li lp inn fr wt none sn) .giveBack with count := ((n + 1 : Nat) : Int), kept := k }) (B := B) hk.2.1 hv hw h ?_
  intro hd' mk' lm' li' sn' hv'
  unfold M.resume
  dsimp only [M.frame]
  obtain ⟨mk2, e, hv2⟩ := putBack_eq (C := C) (pc := pc) (pos := p0 + (n + 1)) (hd := hd') (ob := ob) (lm2 := lm') (li := li') (lp := lp) (inn := inn) (fr := fr) (wt := wt) (sn := sn') hk hv'
  rw [e]
  simp only [M.word, hk2, Bool.false_eq_true, if_false]
  rw [if_neg (by omega)]
  have := h2 ob hd' k.lastindex mk2 fr wt sn' k hv2 hk (by omega)
  have e1 : ((n + 1 : Nat) : Int) - 1 = (n : Int) := by omega
  have e2 : p0 + (n + 1) - 1 = p0 + n := by omega
  rw [e1, e2]
  exact this

theorem gives_fail {p0 sk least : Nat} (hk1 : C.code.getD (pc + 1) 0 = sk) (hk2 : C.code.getD (pc + 2) 0 = least) : ∀ n, least ≤ n → (∀ k, least ≤ k → k ≤ n → Ends C c B (pc + 1 + sk) (p0 + k) sz V lm lp inn none) →
    Gives C ((n + 1) * (c + 1)) (B + 1 + sz) pc p0 n sz V lm lp inn none := by
  intro n
  induction n with
  | zero => 
    intro hl h
    have : least = 0 := by omega
    have := gives_last (p0 := p0) (n := 0) hk1 hk2 (by omega) (h 0 hl (Nat.le_refl _))
    simpa using this
  | succ n ih =>
    intro hl h
    by_cases e : n + 1 = least
    · have := gives_last (p0 := p0) (n := n + 1) hk1 hk2 e (h (n + 1) hl (Nat.le_refl _))
      intro ob hd li mk fr wt sn k hv hk hw
      refine (this ob hd li mk fr wt sn k hv hk hw).mono ?_
      have : c + 1 ≤ (n + 1 + 1) * (c + 1) := Nat.le_mul_of_pos_left _ (by omega)
      exact this
    · have h2 := ih (by omega) fun k a b => h k a (by omega)
      have := gives_next (p0 := p0) (n := n) hk1 hk2 (by omega) (h (n + 1) hl (Nat.le_refl _)) h2 (Nat.le_refl _)
      intro ob hd li mk fr wt sn k hv hk hw
      refine (this ob hd li mk fr wt sn k hv hk hw).mono ?_
      rw [Nat.add_mul (n + 1) 1]
      omega

theorem runLen_le {f : Nat → Bool} : ∀ n p, runLen C f n p ≤ n := by
  intro n
  induction n with
  | zero => intro p; exact Nat.le_refl _
  | succ n ih => intro p; unfold runLen; split; have := ih (p + 1); omega; omega

theorem ends_rep1 {f : Nat → Bool} {least most n : Nat} (hpc : pc < C.code.size) (ho : C.code.getD pc 0 = 24) (hk2 : C.code.getD (pc + 2) 0 = least) (hk3 : C.code.getD (pc + 3) 0 = most) (ha : Acc C (pc + 4) f)
    (hn : runLen C f (min most (C.lim - pos)) pos = n) (hp : pos ≤ C.lim) (hl : least ≤ n) (h : Gives C c B pc pos n sz V lm lp inn r) : Ends C (1 + c) B pc pos sz V lm lp inn r := by
  intro ob hd li mk fr wt sn hv hw
  obtain ⟨sn', er⟩ := run_eq ha (min most (C.lim - pos)) pos 0 ((sn.add 24).add (C.code.getD (pc + 4) 0))
  rw [hn] at er
  have hle : n ≤ C.lim - pos := by rw [← hn]; exact Nat.le_trans (runLen_le _ _) (Nat.min_le_right _ _)
  refine EndsM.steps (k := 1) (m' := M.afterRun (St C pc (pos + n) hd ob mk lm li lp inn fr wt none sn') .giveBack (n : Int) (M.keep (St C pc (pos + n) hd ob mk lm li lp inn fr wt none sn') inn.isSome)) ?_ ?_
  · rw [stepN_one, step_run hpc]
    unfold M.exec
    have e : (ops[(24:Nat)]? : Option Op) = some .REPEAT_ONE := rfl
    simp only [M.word, Nat.add_zero, ho, e, hk2, hk3]
    rw [if_neg (by omega)]
    have e2 : ((C.lim : Int) - (pos : Int)).toNat = C.lim - pos := by omega
    simp only [e2, Bool.false_eq_true, if_false]
    rw [er]
    simp only [Nat.zero_add]
    rw [if_neg (by omega)]
  · exact h ob hd li mk fr wt _ _ hv (keep_ok hv) hw

theorem ends_rep1_few {f : Nat → Bool} {least most n : Nat} (hpc : pc < C.code.size) (ho : C.code.getD pc 0 = 24) (hk2 : C.code.getD (pc + 2) 0 = least) (hk3 : C.code.getD (pc + 3) 0 = most) (ha : Acc C (pc + 4) f)
    (hn : runLen C f (min most (C.lim - pos)) pos = n) (hp : pos ≤ C.lim) (hl : n < least) : Ends C 1 0 pc pos sz V lm lp inn none := by
  refine fails_step fun ob hd li mk fr wt sn => ?_
  obtain ⟨sn', er⟩ := run_eq ha (min most (C.lim - pos)) pos 0 ((sn.add 24).add (C.code.getD (pc + 4) 0))
  rw [hn] at er
  rw [step_run hpc]
  unfold M.exec
  have e : (ops[(24:Nat)]? : Option Op) = some .REPEAT_ONE := rfl
  simp only [M.word, Nat.add_zero, ho, e, hk2, hk3]
  by_cases q : (least : Int) > (C.lim : Int) - (pos : Int)
  · rw [if_pos q]; exact ⟨_, rfl⟩
  · rw [if_neg q]
    have e2 : ((C.lim : Int) - (pos : Int)).toNat = C.lim - pos := by omega
    simp only [e2, Bool.false_eq_true, if_false]
    rw [er]
    simp only [Nat.zero_add]
    rw [if_pos (by omega)]
    exact ⟨_, rfl⟩

/-- REPEAT .. MAX_UNTIL, once at most: its loop while its body runs -/
def lpIn (lp : Array Loop) (pc pos : Nat) (inn : Option Nat) : Array Loop := lp.push { pc := pc, count := 0, began := some pos, outer := inn }
def lpOut (lp : Array Loop) (pc : Nat) (inn : Option Nat) : Array Loop := lp.push { pc := pc, count := -1, began := none, outer := inn }

theorem push_getD {lp : Array Loop} {x d : Loop} : (lp.push x).getD lp.size d = x := by simp [Array.getD_eq_getD_getElem?]
theorem push_modify {lp : Array Loop} {x : Loop} {f : Loop → Loop} : (lp.push x).modify lp.size f = lp.push (f x) := by
  apply Array.ext
  · simp
  · intro i h1 h2
    rw [Array.getElem_modify]
    simp only [Array.getElem_push]
    have : i < lp.size + 1 := by simpa using h2
    by_cases q : lp.size = i
    · subst q; simp
    · rw [if_neg q, dif_pos (by omega)]; rw [dif_pos (by omega)]

/-- the second time at UNTIL: on to what stands behind -/
theorem ends_until {u rp p0 i : Nat} {outer : Option Nat} (hpc : u < C.code.size) (ho : C.code.getD u 0 = 18) (hi : inn = some i) (hl : lp.getD i { pc := 0, outer := none } = { pc := rp, count := 0, began := some p0, outer := outer })
    (h0 : C.code.getD (rp + 2) 0 = 0) (h1 : C.code.getD (rp + 3) 0 = 1) (h : Ends C c B (u + 1) pos sz V lm lp outer r) : Ends C (c + 3) (B + 1 + sz) u pos sz V lm lp inn r := by
  intro ob hd li mk fr wt sn hv hw
  subst hi
  have e0 : stepN 1 (St C u pos hd ob mk lm li lp (some i) fr wt none sn) = M.attempt (St C (u + 1) pos hd ob mk lm li lp outer fr wt none (sn.add 18))
      { M.frame (St C (u + 1) pos hd ob mk lm li lp outer fr wt none (sn.add 18)) .maxTail with loop := i, count := 1, kept := M.keep (St C (u + 1) pos hd ob mk lm li lp outer fr wt none (sn.add 18)) false } (u + 1) pos ob := by
    rw [stepN_one, step_run hpc]
    unfold M.exec
    have e : (ops[(18:Nat)]? : Option Op) = some .MAX_UNTIL := rfl
    simp only [M.word, Nat.add_zero, ho, e]
    unfold M.until_
    simp only [M.loopAt, hl, h0, h1]
    rw [if_neg (by omega), if_neg (by decide), if_neg (by simp [maxRepeat])]
    unfold M.afterLoop
    simp only [M.loopAt, hl]
    rfl
  cases r with
  | some g => 
    refine (EndsM.steps e0 (push_win (lp0 := lp) (inn0 := some i) (V0 := V) (lm0 := lm) ?_ ?_ hv hw h)).mono (by omega)
    · trivial
    · exact (keep_ok hv).2.1
  | none =>
    refine (EndsM.steps e0 (push_fail (c2 := 0) (lp0 := lp) (inn0 := some i) (V0 := V) (lm0 := lm) ?_ hv hw h ?_)).mono (by omega)
    · exact (keep_ok hv).2.1
    · intro hd' mk' lm' li' sn' hv'
      exact fails_now hv'

theorem pop_push {lp : Array Loop} {x : Loop} : (lp.push x).pop = lp := by simp

theorem ends_opt {rp sk u : Nat} (hpc : rp < C.code.size) (ho : C.code.getD rp 0 = 23) (hk : C.code.getD (rp + 1) 0 = sk) (hu : u = rp + 1 + sk) (hpcu : u < C.code.size) (hou : C.code.getD u 0 = 18)
    (h0 : C.code.getD (rp + 2) 0 = 0) (h1 : C.code.getD (rp + 3) 0 = 1) : 
    (∀ {g : Got}, Ends C c B (rp + 4) pos sz V lm (lpIn lp rp pos inn) (some lp.size) (some g) → Ends C (c + 4) (B + 1 + sz + 1 + sz) rp pos sz V lm lp inn (some g)) ∧
    (∀ {c2 : Nat} {r : Option Got}, Ends C c B (rp + 4) pos sz V lm (lpIn lp rp pos inn) (some lp.size) none → Ends C c2 B (u + 1) pos sz V lm (lpOut lp rp inn) inn r → Ends C (c + c2 + 7) (B + 1 + sz + 1 + sz) rp pos sz V lm lp inn r) := by
  subst hu
  -- the step at REPEAT
  have e0 : ∀ ob hd li mk fr wt sn, stepN 1 (St C rp pos hd ob mk lm li lp inn fr wt none sn) = M.attempt (St C rp pos hd ob mk lm li (lpOut lp rp inn) (some lp.size) fr wt none (sn.add 23))
      { M.frame (St C rp pos hd ob mk lm li (lpOut lp rp inn) (some lp.size) fr wt none (sn.add 23)) .closeLoop with loop := lp.size } (rp + 1 + sk) pos ob := by
    intro ob hd li mk fr wt sn
    rw [stepN_one, step_run hpc]
    unfold M.exec
    have e : (ops[(23:Nat)]? : Option Op) = some .REPEAT := rfl
    simp only [M.word, Nat.add_zero, ho, e, hk]
    rfl
  -- the first time at UNTIL
  have e1 : ∀ ob hd li mk fr wt sn, stepN 1 (St C (rp + 1 + sk) pos hd ob mk lm li (lpOut lp rp inn) (some lp.size) fr wt none sn) =
      M.attempt (St C (rp + 1 + sk + 1) pos hd ob mk lm li (lpIn lp rp pos inn) (some lp.size) fr wt none (sn.add 18))
        { M.frame (St C (rp + 1 + sk + 1) pos hd ob mk lm li (lpIn lp rp pos inn) (some lp.size) fr wt none (sn.add 18)) .maxMore with loop := lp.size, count := 0, kept := M.keep (St C (rp + 1 + sk + 1) pos hd ob mk lm li (lpOut lp rp inn) (some lp.size) fr wt none (sn.add 18)) true, began := none } (rp + 4) pos ob := by
    intro ob hd li mk fr wt sn
    rw [stepN_one, step_run hpcu]
    unfold M.exec
    have e : (ops[(18:Nat)]? : Option Op) = some .MAX_UNTIL := rfl
    simp only [M.word, Nat.add_zero, hou, e]
    unfold M.until_
    simp only [M.loopAt, lpOut, push_getD, h0, h1]
    simp only [show ((-1 : Int) + 1) = 0 from rfl]
    rw [if_neg (by decide)]
    simp only [Bool.not_true, Bool.false_eq_true, if_false]
    rw [if_pos (by simp)]
    unfold M.round
    simp only [M.setLoop, M.loopAt, push_getD, push_modify, lpIn]
    rfl
  refine ⟨fun {g} h => ?_, fun {c2 r} h h2 => ?_⟩
  · have inner : Ends C (c + 2) (B + 1 + sz) (rp + 1 + sk) pos sz V lm (lpOut lp rp inn) (some lp.size) (some g) := by
      intro ob hd li mk fr wt sn hv hw
      refine (EndsM.steps (e1 ob hd li mk fr wt sn) (push_win trivial ?_ hv hw h)).mono (by omega)
      exact (keep_ok (w := true) hv).2.1
    intro ob hd li mk fr wt sn hv hw
    refine (EndsM.steps (e0 ob hd li mk fr wt sn) (push_win trivial ?_ hv hw inner)).mono (by omega)
    exact Nat.zero_le _
  · have inner : Ends C (c + c2 + 4) (B + 1 + sz) (rp + 1 + sk) pos sz V lm (lpOut lp rp inn) (some lp.size) r := by
      intro ob hd li mk fr wt sn hv hw
      refine (EndsM.steps (e1 ob hd li mk fr wt sn) (push_fail (c2 := c2 + 2) ?_ hv hw h ?_)).mono (by omega)
      · exact (keep_ok (w := true) hv).2.1
      · intro hd' mk' lm' li' sn' hv'
        have kk : KOk (M.keep (St C (rp + 1 + sk + 1) pos hd ob mk lm li (lpOut lp rp inn) (some lp.size) fr wt none (sn.add 18)) true) sz V lm := keep_ok hv
        generalize M.keep (St C (rp + 1 + sk + 1) pos hd ob mk lm li (lpOut lp rp inn) (some lp.size) fr wt none (sn.add 18)) true = k at kk
        have e2 : M.resume (St C (rp + 1 + sk + 1) pos hd' ob mk' lm' li' (lpIn lp rp pos inn) (some lp.size) fr wt none sn')
            { M.frame (St C (rp + 1 + sk + 1) pos hd ob mk lm li (lpIn lp rp pos inn) (some lp.size) fr wt none (sn.add 18)) .maxMore with loop := lp.size, count := 0, kept := k, began := none } false
            = M.attempt (St C (rp + 1 + sk + 1) pos hd' ob (M.putBack (St C (rp + 1 + sk + 1) pos hd' ob mk' lm' li' (lpIn lp rp pos inn) (some lp.size) fr wt none sn') k).marks lm k.lastindex (lpOut lp rp inn) inn fr wt none sn')
              { M.frame (St C (rp + 1 + sk + 1) pos hd' ob (M.putBack (St C (rp + 1 + sk + 1) pos hd' ob mk' lm' li' (lpIn lp rp pos inn) (some lp.size) fr wt none sn') k).marks lm k.lastindex (lpOut lp rp inn) inn fr wt none sn') .maxTail with loop := lp.size, count := 0, kept := M.keep (St C (rp + 1 + sk + 1) pos hd' ob (M.putBack (St C (rp + 1 + sk + 1) pos hd' ob mk' lm' li' (lpIn lp rp pos inn) (some lp.size) fr wt none sn') k).marks lm k.lastindex (lpOut lp rp inn) inn fr wt none sn') false } (rp + 1 + sk + 1) pos ob := by
          unfold M.resume
          simp only [M.frame, Bool.false_eq_true, if_false, M.setLoop, M.afterLoop, M.loopAt, lpIn, push_modify, M.putBack, kk.1, push_getD]
          rfl
        have hv2 : Vis (M.putBack (St C (rp + 1 + sk + 1) pos hd' ob mk' lm' li' (lpIn lp rp pos inn) (some lp.size) fr wt none sn') k).marks sz lm V := by
          obtain ⟨mk2, e3, hv2⟩ := putBack_eq (C := C) (pc := rp + 1 + sk + 1) (pos := pos) (hd := hd') (ob := ob) (lm2 := lm') (li := li') (lp := lpIn lp rp pos inn) (inn := some lp.size) (fr := fr) (wt := wt) (sn := sn') kk hv'
          rw [e3]; exact hv2
        generalize (M.putBack (St C (rp + 1 + sk + 1) pos hd' ob mk' lm' li' (lpIn lp rp pos inn) (some lp.size) fr wt none sn') k).marks = mk2 at e2 hv2
        refine Eq.mpr (congrArg (fun m => EndsM C (c2 + 2) sz V lm (lpOut lp rp inn) (some lp.size) fr wt m r) e2) ?_
        cases r with
        | some g => exact EndsM.mono (push_win trivial (keep_ok (w := false) hv2).2.1 hv2 hw h2) (by omega)
        | none => exact EndsM.mono (push_fail (c2 := 0) (keep_ok (w := false) hv2).2.1 hv2 hw h2 fun hd'' mk'' lm'' li'' sn'' hv'' => fails_now hv'') (by omega)
    intro ob hd li mk fr wt sn hv hw
    cases r with
    | some g =>
      refine (EndsM.steps (e0 ob hd li mk fr wt sn) (push_win trivial ?_ hv hw inner)).mono (by omega)
      exact Nat.zero_le _
    | none =>
      refine (EndsM.steps (e0 ob hd li mk fr wt sn) (push_fail (c2 := 0) ?_ hv hw inner ?_)).mono (by omega)
      · exact Nat.zero_le _
      · intro hd' mk' lm' li' sn' hv'
        unfold M.resume
        simp only [M.frame, M.loopAt, lpOut, push_getD, pop_push]
        exact fails_now hv'

theorem step_assert_not {sk : Nat} (hpc : pc < C.code.size) (ho : C.code.getD pc 0 = 5) (hk : C.code.getD (pc + 1) 0 = sk) (h2 : C.code.getD (pc + 2) 0 = 0) :
    (St C pc pos hd ob mk lm li lp inn fr wt none sn).step = M.attempt (St C pc pos hd ob mk lm li lp inn fr wt none (sn.add 5))
      { M.frame (St C pc pos hd ob mk lm li lp inn fr wt none (sn.add 5)) .lookNot with kept := M.keep (St C pc pos hd ob mk lm li lp inn fr wt none (sn.add 5)) inn.isSome } (pc + 3) pos false := by
  rw [step_run hpc]
  unfold M.exec
  have e : (ops[(5:Nat)]? : Option Op) = some .ASSERT_NOT := rfl
  simp only [M.word, Nat.add_zero, ho, e, h2]
  rw [if_neg (by omega)]
  simp

theorem ends_not_pass {sk c2 : Nat} (hpc : pc < C.code.size) (ho : C.code.getD pc 0 = 5) (hk : C.code.getD (pc + 1) 0 = sk) (h2 : C.code.getD (pc + 2) 0 = 0)
    (h : Ends C c B (pc + 3) pos sz V lm lp inn none) (hn : Ends C c2 B (pc + 1 + sk) pos sz V lm lp inn r) : Ends C (c + c2 + 2) (B + 1 + sz) pc pos sz V lm lp inn r := by
  intro ob hd li mk fr wt sn hv hw
  refine (EndsM.steps (k := 1) (by rw [stepN_one, step_assert_not hpc ho hk h2]) (push_fail (c2 := c2) ?_ hv hw h ?_)).mono (by omega)
  · exact (keep_ok hv).2.1
  · intro hd' mk' lm' li' sn' hv'
    unfold M.resume
    dsimp only [M.frame]
    obtain ⟨mk2, e, hv2⟩ := putBack_eq (C := C) (pc := pc) (pos := pos) (hd := hd') (ob := ob) (lm2 := lm') (li := li') (lp := lp) (inn := inn) (fr := fr) (wt := wt) (sn := sn')
      (keep_ok (C := C) (pc := pc) (pos := pos) (hd := hd) (ob := ob) (li := li) (lp := lp) (inn := inn) (fr := fr) (wt := wt) (sn := sn.add 5) (w := inn.isSome) hv) hv'
    rw [e]
    simp only [M.word, hk, Bool.false_eq_true, if_false]
    exact hn ob hd' _ mk2 fr wt sn' hv2 (by omega)

theorem ends_not_stop {sk : Nat} (hpc : pc < C.code.size) (ho : C.code.getD pc 0 = 5) (hk : C.code.getD (pc + 1) 0 = sk) (h2 : C.code.getD (pc + 2) 0 = 0)
    (h : ∀ ob hd li mk fr wt sn, ∃ n, n ≤ c ∧ ∃ pc' pos' hd' ob' li' sn', stepN n (St C (pc + 3) pos hd ob mk lm li lp inn fr wt none sn) = St C pc' pos' hd' ob' mk lm li' lp inn fr wt (some true) sn') :
    Ends C (c + 2) (1 + sz) pc pos sz V lm lp inn none := by
  intro ob hd li mk fr wt sn hv hw
  have e0 := step_assert_not (hd := hd) (ob := ob) (mk := mk) (lm := lm) (li := li) (lp := lp) (inn := inn) (fr := fr) (wt := wt) (sn := sn) (pos := pos) hpc ho hk h2
  rw [← stepN_one] at e0
  have hks : (M.keep (St C pc pos hd ob mk lm li lp inn fr wt none (sn.add 5)) inn.isSome).marks.size ≤ sz := (keep_ok hv).2.1
  rw [attempt_eq (by dsimp only; omega)] at e0
  obtain ⟨n, hn, a1, a2, a3, a4, a5, a6, e1⟩ := h false pos li mk ({ M.frame (St C pc pos hd ob mk lm li lp inn fr wt none (sn.add 5)) .lookNot with kept := M.keep (St C pc pos hd ob mk lm li lp inn fr wt none (sn.add 5)) inn.isSome } :: fr)
    (wt + 1 + (M.keep (St C pc pos hd ob mk lm li lp inn fr wt none (sn.add 5)) inn.isSome).marks.size) (sn.add 5)
  refine ⟨1 + (n + 1), by omega, pc, pos, a3, ob, mk, lm, a5, a6, ?_, hv⟩
  rw [stepN_add, e0, stepN_add]
  dsimp only at e1 ⊢
  rw [e1, stepN_one]
  unfold M.step
  have hw2 : ∀ k, wt + 1 + k - (1 + k) = wt := by omega
  simp only [hw2]
  rfl

/-! the search -/

def Cx.at (C : Cx) (s : Nat) : Cx := { C with start := s }

def Found (c : Nat) (r : Option Got) (sz : Nat) (m : M) : Prop :=
  ∃ n, n ≤ c ∧ ∃ m', stepN n m = m' ∧ match r with
    | none => m'.outcome = some .failed
    | some g => m'.outcome = some .matched ∧ m'.start = 0 ∧ m'.handed = g.e ∧ m'.lastmark = g.lm ∧ Vis m'.marks sz g.lm g.V

theorem Found.steps {m m' : M} {k : Nat} (e : stepN k m = m') (h : Found c r sz m') : Found (k + c) r sz m := by
  obtain ⟨n, hn, m2, e2, h⟩ := h
  exact ⟨k + n, by omega, m2, by rw [stepN_add, e, e2], h⟩
theorem Found.mono {m : M} {c' : Nat} (h : Found c r sz m) (hc : c ≤ c') : Found c' r sz m := by
  obtain ⟨n, hn, x⟩ := h
  exact ⟨n, by omega, x⟩

theorem step_out {b : Bool} : (St C pc pos hd ob mk lm li lp inn [] wt (some b) sn).step = { St C pc pos hd ob mk lm li lp inn [] wt (some b) sn with outcome := some (if b then .matched else .failed) } := rfl

theorem found_no : Found 1 none sz (St C pc pos hd ob mk lm li lp inn [] wt (some false) sn) :=
  ⟨1, Nat.le_refl _, _, by rw [stepN_one, step_out], rfl⟩

def startFrame (body s : Nat) (first : Bool) : Sre.Frame := { wait := .nextStart, pc := body, pos := s, outermost := first }

/-- the state at the start of an attempt at s -/
def Att (C : Cx) (body s hd : Nat) (first : Bool) (mk : Array (Option Nat)) (sn : Seen) : M :=
  St (C.at s) body s s first mk (-1) (-1) #[] none [startFrame body s first] 1 none sn

theorem attemptFrom_eq {C : Cx} {body s p0 hd : Nat} {first ob : Bool} {mk : Array (Option Nat)} {lm li : Int} {sn : Seen} (hf : ((match ops[C.code.getD 0 0]? with | some .INFO => true | _ => false) && C.code.getD 2 0 == 4) = false) :
    M.attemptFrom (St C body p0 hd ob mk lm li #[] none [] 0 none sn) s first = Att C body s hd first mk sn := by
  unfold M.attemptFrom
  have : M.hasFirstSet (St C body p0 hd ob mk lm li #[] none [] 0 none sn) = false := hf
  rw [this]
  simp only [Bool.not_false, if_true]
  unfold M.attemptAt
  exact attempt_eq (C := C.at s) (wt := 0) (lm := -1) (f := startFrame body s first) (show 1 ≤ top by decide)

theorem att_run {body s hd : Nat} {first : Bool} {mk : Array (Option Nat)} {sn : Seen} (hv : Vis mk sz (-1) V) (hB : 1 + B ≤ top) (h : Ends (C.at s) c B body s sz V (-1) #[] none r) :
    EndsM (C.at s) c sz V (-1) #[] none [startFrame body s first] 1 (Att C body s hd first mk sn) r := h first s (-1) mk _ 1 sn hv hB

/-- from s on no attempt holds -/
theorem search_none {body cs : Nat} (hf : ((match ops[C.code.getD 0 0]? with | some .INFO => true | _ => false) && C.code.getD 2 0 == 4) = false) (hB : 1 + B ≤ top) : ∀ (k s : Nat), s + k = C.lastStart + 1 → 
    (∀ t, s ≤ t → t ≤ C.lastStart → Ends (C.at t) cs B body t sz (fun _ => none) (-1) #[] none none) → ∀ (hd : Nat) (first : Bool) (mk : Array (Option Nat)) (sn : Seen), 0 < k → Vis mk sz (-1) (fun _ => none) →
    Found (k * (cs + 2) + 1) none sz (Att C body s hd first mk sn) := by
  intro k
  induction k with
  | zero => intro s hs h hd first mk sn h0; exact absurd h0 (Nat.lt_irrefl _)
  | succ k ih =>
    intro s hs h hd first mk sn _ hv
    obtain ⟨n, hn, a1, a2, a3, a4, a5, a6, a7, a8, e2, hv2⟩ := att_run (hd := hd) (first := first) (sn := sn) hv hB (h s (Nat.le_refl _) (by omega))
    have e3 : stepN (n + 1) (Att C body s hd first mk sn) = M.resume (St (C.at s) body s a3 first a5 a6 a7 #[] none [] 0 none a8) (startFrame body s first) false := by
      rw [stepN_add, e2, stepN_one]; rfl
    by_cases hl : s < C.lastStart
    · have e4 : M.resume (St (C.at s) body s a3 first a5 a6 a7 #[] none [] 0 none a8) (startFrame body s first) false = Att C body (s + 1) a3 false a5 a8 := by
        unfold M.resume
        simp only [startFrame, Bool.false_eq_true, if_false]
        show (if s < C.lastStart then _ else _) = _
        rw [if_pos hl]
        exact attemptFrom_eq (C := C.at s) hf
      refine (Found.steps (e3.trans e4) (ih (s + 1) (by omega) (fun t a b => h t (by omega) b) a3 false a5 a8 (by omega) hv2)).mono ?_
      rw [Nat.add_mul k 1]; omega
    · have e4 : M.resume (St (C.at s) body s a3 first a5 a6 a7 #[] none [] 0 none a8) (startFrame body s first) false = St (C.at s) body s a3 first a5 a6 a7 #[] none [] 0 (some false) a8 := by
        unfold M.resume
        simp only [startFrame, Bool.false_eq_true, if_false]
        show (if s < C.lastStart then _ else _) = _
        rw [if_neg hl]; rfl
      refine (Found.steps (e3.trans e4) found_no).mono ?_
      rw [Nat.add_mul k 1]; omega

/-- the whole search, from place 0 of the text -/
theorem search_eq {code text : Array Nat} {groups least body : Nat} {sn : Seen} (hh : header code = (least, body)) (hb : body ≠ 0) (h2 : code.getD 2 0 = 0) (hm : ¬ text.size < least) :
    forSearch code text groups 0 text.size false = Att ⟨code, text, text.size, 0, if least > 1 then text.size - (least - 1) else text.size⟩ body 0 0 true (Array.replicate (2 * groups) none) (({} : Seen).add 14) := by
  have hf : ((match ops[code.getD 0 0]? with | some .INFO => true | _ => false) && code.getD 2 0 == 4) = false := by rw [h2]; simp
  rw [← attemptFrom_eq (C := ⟨code, text, text.size, 0, if least > 1 then text.size - (least - 1) else text.size⟩) (p0 := 0) (hd := 0) (ob := true) (lm := -1) (li := -1) hf]
  have e : forSearch code text groups 0 text.size false = (if 0 > text.size || text.size - 0 < (header code).1 then _ else
    M.attemptFrom { code := code, text := text, lim := text.size, start := 0, pc := (header code).2, pos := 0, handed := 0, marks := Array.replicate (2 * groups) none, mustAdvance := false, seen := (if (header code).2 == 0 then ({} : Seen) else ({} : Seen).add 14), lastStart := (if (header code).1 > 1 && !((header code).2 != 0 && code.getD 2 0 &&& 5 != 0) then max 0 (text.size - ((header code).1 - 1)) else text.size) } 0 true) := rfl
  rw [e, hh, h2]
  simp [hm, hb]

theorem search_short {code text : Array Nat} {groups least body : Nat} (hh : header code = (least, body)) (hm : text.size < least) :
    Found 1 none sz (forSearch code text groups 0 text.size false) := by
  have e : forSearch code text groups 0 text.size false = (if 0 > text.size || text.size - 0 < (header code).1 then
     M.say { code := code, text := text, lim := text.size, start := 0, pc := (header code).2, pos := 0, handed := 0, marks := Array.replicate (2 * groups) none, mustAdvance := false, seen := (if (header code).2 == 0 then ({} : Seen) else ({} : Seen).add 14) } false else _) := rfl
  rw [e, hh]
  simp only [hm, gt_iff_lt, Nat.not_lt_zero, decide_false, Nat.sub_zero, decide_true, Bool.or_true, if_true]
  exact ⟨1, Nat.le_refl _, _, rfl, rfl⟩

/-- found at place 0 -/
theorem search_hit {body : Nat} {g : Got} {hd : Nat} {mk : Array (Option Nat)} {sn : Seen} (h0 : C.start = 0) (hB : 1 + B ≤ top) (hv : Vis mk sz (-1) (fun _ => none)) (h : Ends (C.at 0) c B body 0 sz (fun _ => none) (-1) #[] none (some g)) :
    Found (c + 2) (some g) sz (Att C body 0 hd true mk sn) := by
  obtain ⟨n, hn, a1, a2, a3, a4, a5, a6, a7, a8, e2, hv2⟩ := att_run (hd := hd) (first := true) (sn := sn) hv hB h
  exact ⟨n + 2, by omega, _, by rw [stepN_add, e2], rfl, rfl, rfl, rfl, hv2⟩

end Mine
end

section
open PySem PySem.Sre
set_option Elab.async false
set_option linter.unusedVariables false
namespace Mine

/-! signs and runs of signs in a text -/

def ch (t : Array Nat) (f : Nat → Bool) (p : Nat) : Bool := decide (p < t.size) && f (t.getD p 0)
def spanN (t : Array Nat) (f : Nat → Bool) : Nat → Nat → Nat
  | 0, _ => 0
  | n + 1, p => if ch t f p then spanN t f n (p + 1) + 1 else 0
def span (t : Array Nat) (f : Nat → Bool) (p : Nat) : Nat := spanN t f (t.size - p) p

theorem ch_true {t : Array Nat} {f : Nat → Bool} {p : Nat} : ch t f p = true ↔ p < t.size ∧ f (t.getD p 0) = true := by simp [ch]
theorem ch_lt {t : Array Nat} {f : Nat → Bool} {p : Nat} (h : ch t f p = true) : p < t.size := (ch_true.mp h).1
theorem ch_end {t : Array Nat} {f : Nat → Bool} {p : Nat} (h : t.size ≤ p) : ch t f p = false := by simp [ch, Nat.not_lt.mpr h]

theorem span_eq (t : Array Nat) (f : Nat → Bool) (p : Nat) : span t f p = if ch t f p then span t f (p + 1) + 1 else 0 := by
  unfold span
  by_cases h : p < t.size
  · obtain ⟨k, hk⟩ : ∃ k, t.size - p = k + 1 := ⟨t.size - p - 1, by omega⟩
    have e : t.size - (p + 1) = k := by omega
    rw [hk, e]; rfl
  · have : t.size - p = 0 := by omega
    rw [this, ch_end (by omega)]; rfl

theorem spanN_le (t : Array Nat) (f : Nat → Bool) : ∀ n p, spanN t f n p ≤ n := by
  intro n
  induction n with
  | zero => intro p; exact Nat.le_refl _
  | succ n ih => intro p; unfold spanN; split; have := ih (p + 1); omega; omega
theorem span_le (t : Array Nat) (f : Nat → Bool) (p : Nat) : span t f p ≤ t.size - p := spanN_le t f _ p
theorem span_in {t : Array Nat} {f : Nat → Bool} {p : Nat} (hp : p ≤ t.size) : p + span t f p ≤ t.size := by have := span_le t f p; omega

theorem span_ch {t : Array Nat} {f : Nat → Bool} : ∀ (k p : Nat), k < span t f p → ch t f (p + k) = true := by
  intro k
  induction k with
  | zero => intro p h; rw [span_eq] at h; by_cases q : ch t f p = true; exact q; rw [if_neg q] at h; omega
  | succ k ih =>
    intro p h
    rw [span_eq] at h
    by_cases q : ch t f p = true
    · rw [if_pos q] at h
      have := ih (p + 1) (by omega)
      rw [← this]; congr 1; omega
    · rw [if_neg q] at h; omega

theorem spanN_end (t : Array Nat) (f : Nat → Bool) : ∀ n p, n = t.size - p → ch t f (p + spanN t f n p) = false := by
  intro n
  induction n with
  | zero => intro p h; exact ch_end (by simp [spanN]; omega)
  | succ n ih =>
    intro p h
    unfold spanN
    split
    · have := ih (p + 1) (by omega); rw [← this]; congr 1; omega
    · rename_i q; simpa using q
theorem span_end (t : Array Nat) (f : Nat → Bool) (p : Nat) : ch t f (p + span t f p) = false := spanN_end t f _ p rfl

theorem span_skip {t : Array Nat} {f : Nat → Bool} : ∀ (k p : Nat), k ≤ span t f p → span t f (p + k) = span t f p - k := by
  intro k
  induction k with
  | zero => intro p h; simp
  | succ k ih =>
    intro p h
    rw [span_eq t f p] at h ⊢
    by_cases q : ch t f p = true
    · rw [if_pos q] at h ⊢
      have := ih (p + 1) (by omega)
      rw [show p + (k + 1) = p + 1 + k from by omega, this]; omega
    · rw [if_neg q] at h; omega
theorem span_zero {t : Array Nat} {f : Nat → Bool} {p : Nat} : span t f p = 0 ↔ ch t f p = false := by
  rw [span_eq]; by_cases q : ch t f p = true
  · simp [q]
  · simp at q; simp [q]
theorem span_pos {t : Array Nat} {f : Nat → Bool} {p : Nat} : 0 < span t f p ↔ ch t f p = true := by
  rw [Nat.pos_iff_ne_zero, ne_eq, span_zero]; simp
/-- a run is what it is said to be -/
theorem span_is {t : Array Nat} {f : Nat → Bool} {p n : Nat} (h1 : ∀ k, k < n → ch t f (p + k) = true) (h2 : ch t f (p + n) = false) : span t f p = n := by
  rcases Nat.lt_trichotomy (span t f p) n with h | h | h
  · have := h1 _ h; rw [span_end] at this; cases this
  · exact h
  · have := span_ch n p h; rw [h2] at this; cases this

section
variable {C : Cx} {t : Array Nat}
structure On (C : Cx) (t : Array Nat) : Prop where
  text : C.text = t
  lim : C.lim = t.size
  small : t.size < 65536

theorem On.at? (o : On C t) (f : Nat → Bool) (p : Nat) : at? C f p = ch t f p := by unfold Mine.at? ch; rw [o.text, o.lim]
theorem On.run (o : On C t) (f : Nat → Bool) : ∀ (n p : Nat), n ≤ t.size - p → runLen C f n p = min n (span t f p) := by
  intro n
  induction n with
  | zero => intro p h; simp [runLen]
  | succ n ih =>
    intro p h
    unfold runLen
    rw [o.text, ih (p + 1) (by omega), span_eq t f p]
    have : ch t f p = f (t.getD p 0) := by unfold ch; rw [decide_eq_true (by omega)]; simp
    rw [this]
    split <;> omega
theorem On.runs (o : On C t) (f : Nat → Bool) (most p : Nat) : runLen C f (min most (C.lim - p)) p = min most (span t f p) := by
  rw [o.lim, o.run f _ _ (Nat.min_le_right _ _)]
  have := span_le t f p
  omega
end

/-! sets of signs -/
section
variable {C : Cx} {pc : Nat}
theorem cat_digit (c : Nat) : category 0 c = .ok (isDigit c) := by
  unfold category; simp [Except.map]
theorem cat_space (c : Nat) : category 2 c = .ok (isSpace c) := by
  unfold category; simp [Except.map]
theorem cat_word (c : Nat) : category 4 c = .ok (isWord c) := by
  unfold category; simp [Except.map]

theorem acc_lit {k : Nat} (ho : C.code.getD pc 0 = 16) (h1 : C.code.getD (pc + 1) 0 = k) : Acc C pc (fun c => c == k) := by
  intro c sn
  unfold accepts
  have e : (ops[(16:Nat)]? : Option Op) = some .LITERAL := rfl
  simp only [ho, e, h1]
  exact ⟨_, rfl⟩
theorem acc_lit_ign {k : Nat} (ho : C.code.getD pc 0 = 32) (h1 : C.code.getD (pc + 1) 0 = k) : Acc C pc (fun c => lowerAscii c == k) := by
  intro c sn
  unfold accepts
  have e : (ops[(32:Nat)]? : Option Op) = some .LITERAL_IGNORE := rfl
  simp only [ho, e, h1]
  exact ⟨_, rfl⟩

theorem inSet_lit {c n i : Nat} {yes : Bool} {sn : Seen} (h : C.code.getD i 0 = 16) : inSet C.code c (n + 1) i yes sn = if c == C.code.getD (i + 1) 0 then .ok (yes, sn.add 16) else inSet C.code c n (i + 2) yes (sn.add 16) := by
  rw [inSet]
  have e : (ops[(16:Nat)]? : Option Op) = some .LITERAL := rfl
  simp only [Nat.add_zero, h, e]
theorem inSet_range {c n i : Nat} {yes : Bool} {sn : Seen} (h : C.code.getD i 0 = 22) : inSet C.code c (n + 1) i yes sn = if C.code.getD (i + 1) 0 ≤ c && c ≤ C.code.getD (i + 2) 0 then .ok (yes, sn.add 22) else inSet C.code c n (i + 3) yes (sn.add 22) := by
  rw [inSet]
  have e : (ops[(22:Nat)]? : Option Op) = some .RANGE := rfl
  simp only [Nat.add_zero, h, e]
theorem inSet_fail {c n i : Nat} {yes : Bool} {sn : Seen} (h : C.code.getD i 0 = 0) : inSet C.code c (n + 1) i yes sn = .ok (!yes, sn.add 0) := by
  rw [inSet]
  have e : (ops[(0:Nat)]? : Option Op) = some .FAILURE := rfl
  simp only [Nat.add_zero, h, e]
theorem inSet_charset {c n i : Nat} {yes : Bool} {sn : Seen} (h : C.code.getD i 0 = 9) : inSet C.code c (n + 1) i yes sn = if c < 256 && (C.code.getD (i + (1 + c / 32)) 0).testBit (c % 32) then .ok (yes, sn.add 9) else inSet C.code c n (i + 9) yes (sn.add 9) := by
  rw [inSet]
  have e : (ops[(9:Nat)]? : Option Op) = some .CHARSET := rfl
  simp only [Nat.add_zero, h, e]

theorem inSet_cat {c n i : Nat} {yes b : Bool} {sn : Seen} (h : C.code.getD i 0 = 8) (hb : category (C.code.getD (i + 1) 0) c = .ok b) :
    inSet C.code c (n + 1) i yes sn = if b then .ok (yes, (sn.add 8).add (55 + C.code.getD (i + 1) 0)) else inSet C.code c n (i + 2) yes ((sn.add 8).add (55 + C.code.getD (i + 1) 0)) := by
  rw [inSet]
  have e : (ops[(8:Nat)]? : Option Op) = some .CATEGORY := rfl
  simp only [Nat.add_zero, h, e, hb]
  cases b <;> rfl
theorem acc_cat {k : Nat} {f : Nat → Bool} (hs : 4 < C.code.size) (ho : C.code.getD pc 0 = 13) (h2 : C.code.getD (pc + 2) 0 = 8) (h3 : C.code.getD (pc + 3) 0 = k) (h4 : C.code.getD (pc + 4) 0 = 0)
    (hf : ∀ c, category k c = .ok (f c)) : Acc C pc f := by
  intro c sn
  obtain ⟨n, hn⟩ : ∃ n, C.code.size = n + 3 := ⟨C.code.size - 3, by omega⟩
  unfold accepts
  have e13 : (ops[(13:Nat)]? : Option Op) = some .IN := rfl
  simp only [ho, e13, hn]
  have hf' : category (C.code.getD (pc + 2 + 1) 0) c = .ok (f c) := by rw [show pc + 2 + 1 = pc + 3 from rfl, h3]; exact hf c
  rw [inSet_cat h2 hf']
  by_cases q : f c = true
  · rw [if_pos q, q]; exact ⟨_, rfl⟩
  · rw [if_neg q, inSet_fail h4]
    simp only [Bool.not_eq_true] at q
    rw [q]; exact ⟨_, rfl⟩

theorem acc_two {a b : Nat} (hs : 8 < C.code.size) (ho : C.code.getD pc 0 = 13) (h2 : C.code.getD (pc + 2) 0 = 16) (h3 : C.code.getD (pc + 3) 0 = a) (h4 : C.code.getD (pc + 4) 0 = 16) (h5 : C.code.getD (pc + 5) 0 = b) (h6 : C.code.getD (pc + 6) 0 = 0) :
    Acc C pc (fun c => c == a || c == b) := by
  intro c sn
  obtain ⟨n, hn⟩ : ∃ n, C.code.size = n + 3 := ⟨C.code.size - 3, by omega⟩
  unfold accepts
  have e13 : (ops[(13:Nat)]? : Option Op) = some .IN := rfl
  simp only [ho, e13, hn]
  rw [inSet_lit h2, h3]
  by_cases q : (c == a) = true
  · rw [if_pos q]; simp only [q, Bool.true_or]; exact ⟨_, rfl⟩
  · rw [if_neg q, inSet_lit h4, h5]
    by_cases q2 : (c == b) = true
    · rw [if_pos q2]; simp only [q2, Bool.or_true]; exact ⟨_, rfl⟩
    · rw [if_neg q2, inSet_fail h6]
      simp only [Bool.not_eq_true] at q q2
      simp only [q, q2]; exact ⟨_, rfl⟩

theorem acc_range2 {a b a2 b2 : Nat} (hs : 8 < C.code.size) (ho : C.code.getD pc 0 = 13) (h2 : C.code.getD (pc + 2) 0 = 22) (h3 : C.code.getD (pc + 3) 0 = a) (h4 : C.code.getD (pc + 4) 0 = b) (h5 : C.code.getD (pc + 5) 0 = 22) (h6 : C.code.getD (pc + 6) 0 = a2) (h7 : C.code.getD (pc + 7) 0 = b2) (h8 : C.code.getD (pc + 8) 0 = 0) :
    Acc C pc (fun c => (decide (a ≤ c) && decide (c ≤ b)) || (decide (a2 ≤ c) && decide (c ≤ b2))) := by
  intro c sn
  obtain ⟨n, hn⟩ : ∃ n, C.code.size = n + 3 := ⟨C.code.size - 3, by omega⟩
  unfold accepts
  have e13 : (ops[(13:Nat)]? : Option Op) = some .IN := rfl
  simp only [ho, e13, hn]
  rw [inSet_range h2, h3, h4]
  by_cases q : (decide (a ≤ c) && decide (c ≤ b)) = true
  · rw [if_pos q]; simp only [q, Bool.true_or]; exact ⟨_, rfl⟩
  · rw [if_neg q, inSet_range h5, h6, h7]
    by_cases q2 : (decide (a2 ≤ c) && decide (c ≤ b2)) = true
    · rw [if_pos q2]; simp only [q2, Bool.or_true]; exact ⟨_, rfl⟩
    · rw [if_neg q2, inSet_fail h8]
      simp only [Bool.not_eq_true] at q q2
      simp only [q, q2]; exact ⟨_, rfl⟩

theorem acc_range_ign {a b : Nat} (hs : 8 < C.code.size) (ho : C.code.getD pc 0 = 31) (h2 : C.code.getD (pc + 2) 0 = 22) (h3 : C.code.getD (pc + 3) 0 = a) (h4 : C.code.getD (pc + 4) 0 = b) (h5 : C.code.getD (pc + 5) 0 = 0) :
    Acc C pc (fun c => decide (a ≤ lowerAscii c) && decide (lowerAscii c ≤ b)) := by
  intro c sn
  obtain ⟨n, hn⟩ : ∃ n, C.code.size = n + 3 := ⟨C.code.size - 3, by omega⟩
  unfold accepts
  have e : (ops[(31:Nat)]? : Option Op) = some .IN_IGNORE := rfl
  simp only [ho, e, hn]
  rw [inSet_range h2, h3, h4]
  by_cases q : (decide (a ≤ lowerAscii c) && decide (lowerAscii c ≤ b)) = true
  · rw [if_pos q]; simp only [q]; exact ⟨_, rfl⟩
  · rw [if_neg q, inSet_fail h5]
    simp only [Bool.not_eq_true] at q
    simp only [q]; exact ⟨_, rfl⟩

theorem acc_charset {f : Nat → Bool} (hs : 8 < C.code.size) (ho : C.code.getD pc 0 = 13) (h2 : C.code.getD (pc + 2) 0 = 9) (h11 : C.code.getD (pc + 11) 0 = 0)
    (hf : ∀ c, (decide (c < 256) && (C.code.getD (pc + 2 + (1 + c / 32)) 0).testBit (c % 32)) = f c) : Acc C pc f := by
  intro c sn
  obtain ⟨n, hn⟩ : ∃ n, C.code.size = n + 3 := ⟨C.code.size - 3, by omega⟩
  unfold accepts
  have e13 : (ops[(13:Nat)]? : Option Op) = some .IN := rfl
  simp only [ho, e13, hn]
  rw [inSet_charset h2, hf]
  by_cases q : f c = true
  · rw [if_pos q, q]; exact ⟨_, rfl⟩
  · rw [if_neg q, inSet_fail h11]
    simp only [Bool.not_eq_true] at q
    rw [q]; exact ⟨_, rfl⟩
end
end Mine
end

section
open PySem PySem.Sre
set_option Elab.async false
set_option linter.unusedVariables false
set_option maxRecDepth 100000
namespace Mine

theorem gives_fail2 {C : Cx} {c0 c1 B pc p0 sz sk least : Nat} {V : Nat → Option Nat} {lm : Int} {lp : Array Loop} {inn : Option Nat} (hk1 : C.code.getD (pc + 1) 0 = sk) (hk2 : C.code.getD (pc + 2) 0 = least) (n : Nat) (hn : least ≤ n)
    (h0 : Ends C c0 B (pc + 1 + sk) (p0 + n) sz V lm lp inn none) (h1 : ∀ k, least ≤ k → k < n → Ends C c1 B (pc + 1 + sk) (p0 + k) sz V lm lp inn none) :
    Gives C (c0 + 1 + n * (c1 + 1)) (B + 1 + sz) pc p0 n sz V lm lp inn none := by
  intro ob hd li mk fr wt sn k hv hk hw
  by_cases e : n = least
  · exact (gives_last (p0 := p0) hk1 hk2 e h0 ob hd li mk fr wt sn k hv hk hw).mono (by omega)
  · obtain ⟨m, rfl⟩ : ∃ m, n = m + 1 := ⟨n - 1, by omega⟩
    have h2 := gives_fail (p0 := p0) hk1 hk2 m (by omega) fun k a b => h1 k a (by omega)
    exact (gives_next (p0 := p0) (n := m) hk1 hk2 (by omega) h0 h2 (Nat.le_refl _) ob hd li mk fr wt sn k hv hk hw).mono (by omega)

/-- a greedy run of f, then what stands behind; wherever the run stops short nothing holds -/
theorem ends_run {C : Cx} {t : Array Nat} {c0 c1 B pc p sz sk least most : Nat} {V : Nat → Option Nat} {lm : Int} {lp : Array Loop} {inn : Option Nat} {f : Nat → Bool} {r : Option Got} (o : On C t) (hpc : pc < C.code.size)
    (ho : C.code.getD pc 0 = 24) (hk1 : C.code.getD (pc + 1) 0 = sk) (hk2 : C.code.getD (pc + 2) 0 = least) (hk3 : C.code.getD (pc + 3) 0 = most) (ha : Acc C (pc + 4) f) (hp : p ≤ t.size)
    (h0 : least ≤ min most (span t f p) → Ends C c0 B (pc + 1 + sk) (p + min most (span t f p)) sz V lm lp inn r)
    (h1 : r = none → ∀ k, least ≤ k → k < min most (span t f p) → Ends C c1 B (pc + 1 + sk) (p + k) sz V lm lp inn none)
    (hr : min most (span t f p) < least → r = none) :
    Ends C (c0 + 2 + min most (span t f p) * (c1 + 1)) (B + 1 + sz) pc p sz V lm lp inn r := by
  by_cases hl : least ≤ min most (span t f p)
  · cases r with
    | none => exact (ends_rep1 hpc ho hk2 hk3 ha (o.runs f most p) (by rw [o.lim]; exact hp) hl (gives_fail2 hk1 hk2 _ hl (h0 hl) (h1 rfl))).mono (by omega) (Nat.le_refl _)
    | some g => exact (ends_rep1 hpc ho hk2 hk3 ha (o.runs f most p) (by rw [o.lim]; exact hp) hl (gives_win hk1 (h0 hl))).mono (by omega) (Nat.le_refl _)
  · rw [hr (by omega)]
    exact (ends_rep1_few hpc ho hk2 hk3 ha (o.runs f most p) (by rw [o.lim]; exact hp) (by omega)).mono (by omega) (by omega)

def isLp (c : Nat) : Bool := c == 40
def isRp (c : Nat) : Bool := c == 41
def isCo (c : Nat) : Bool := c == 58
def isSign (c : Nat) : Bool := c == 45 || c == 43
def isSep (c : Nat) : Bool := c == 45 || c == 47
def isMm (c : Nat) : Bool := c == 77 || c == 109
def isAP (c : Nat) : Bool := c == 65 || c == 80 || c == 97 || c == 112
def isAlpha (c : Nat) : Bool := (decide (65 ≤ c) && decide (c ≤ 90)) || (decide (97 ≤ c) && decide (c ≤ 122))

def sp (t : Array Nat) (p : Nat) : Nat := p + span t isSpace p
def eot (t : Array Nat) (p : Nat) : Bool := p == t.size || (p + 1 == t.size && t.getD p 0 == 10)

def looseCode : Array Nat := #[14, 4, 0, 5, 4294967295, 6, 0, 17, 0, 13, 4, 8, 0, 0, 24, 9, 0, 1, 13, 4, 8, 0, 0, 1, 17, 1, 7, 13, 24, 9, 1, 4294967295, 13, 4, 8, 2, 0, 1, 15, 12, 10, 13, 6, 16, 45, 16, 47, 0, 15, 2, 0, 17, 2, 24, 9, 1, 4294967295, 13, 4, 8, 4, 0, 1, 17, 3, 7, 13, 24, 9, 1, 4294967295, 13, 4, 8, 2, 0, 1, 15, 12, 10, 13, 6, 16, 45, 16, 47, 0, 15, 2, 0, 17, 4, 24, 9, 1, 4294967295, 13, 4, 8, 0, 0, 1, 17, 5, 23, 79, 0, 1, 7, 13, 24, 9, 1, 4294967295, 13, 4, 8, 2, 0, 1, 15, 7, 5, 16, 58, 15, 2, 0, 17, 6, 13, 4, 8, 0, 0, 24, 9, 0, 1, 13, 4, 8, 0, 0, 1, 17, 7, 16, 58, 17, 8, 13, 4, 8, 0, 0, 13, 4, 8, 0, 0, 17, 9, 23, 19, 0, 1, 16, 58, 17, 10, 13, 4, 8, 0, 0, 13, 4, 8, 0, 0, 17, 11, 18, 18, 24, 9, 0, 4294967295, 13, 4, 8, 2, 0, 1, 23, 86, 0, 1, 17, 12, 7, 25, 24, 11, 0, 1, 13, 6, 16, 45, 16, 43, 0, 1, 24, 9, 2, 4, 13, 4, 8, 0, 0, 1, 15, 44, 42, 5, 24, 0, 13, 11, 9, 0, 0, 65538, 65538, 0, 0, 0, 0, 0, 13, 6, 16, 77, 16, 109, 0, 6, 3, 1, 24, 13, 1, 4294967295, 13, 8, 22, 65, 90, 22, 97, 122, 0, 1, 15, 2, 0, 17, 13, 24, 9, 0, 4294967295, 13, 4, 8, 2, 0, 1, 18, 23, 27, 0, 1, 16, 40, 24, 9, 1, 4294967295, 13, 4, 8, 4, 0, 1, 16, 41, 24, 9, 0, 4294967295, 13, 4, 8, 2, 0, 1, 18, 6, 5, 1]

structure LO (C : Cx) (t : Array Nat) : Prop extends On C t where
  code : C.code = looseCode

section
variable {C : Cx} {t : Array Nat} {V : Nat → Option Nat} {lm : Int} {lp : Array Loop} {inn : Option Nat} {p : Nat}
theorem LO.cd (o : LO C t) {i v : Nat} (h : looseCode.getD i 0 = v) : C.code.getD i 0 = v := by rw [o.code]; exact h
theorem LO.sz (o : LO C t) {i : Nat} (h : i < 315) : i < C.code.size := by rw [o.code]; exact h
theorem LO.dig (o : LO C t) {pc : Nat} (h0 : looseCode.getD pc 0 = 13) (h2 : looseCode.getD (pc + 2) 0 = 8) (h3 : looseCode.getD (pc + 3) 0 = 0) (h4 : looseCode.getD (pc + 4) 0 = 0) : Acc C pc isDigit :=
  acc_cat (o.sz (by decide)) (o.cd h0) (o.cd h2) (o.cd h3) (o.cd h4) cat_digit
theorem LO.spa (o : LO C t) {pc : Nat} (h0 : looseCode.getD pc 0 = 13) (h2 : looseCode.getD (pc + 2) 0 = 8) (h3 : looseCode.getD (pc + 3) 0 = 2) (h4 : looseCode.getD (pc + 4) 0 = 0) : Acc C pc isSpace :=
  acc_cat (o.sz (by decide)) (o.cd h0) (o.cd h2) (o.cd h3) (o.cd h4) cat_space
theorem LO.wor (o : LO C t) {pc : Nat} (h0 : looseCode.getD pc 0 = 13) (h2 : looseCode.getD (pc + 2) 0 = 8) (h3 : looseCode.getD (pc + 3) 0 = 4) (h4 : looseCode.getD (pc + 4) 0 = 0) : Acc C pc isWord :=
  acc_cat (o.sz (by decide)) (o.cd h0) (o.cd h2) (o.cd h3) (o.cd h4) cat_word

theorem LO.most (o : LO C t) (f : Nat → Bool) (p : Nat) : min 4294967295 (span t f p) = span t f p := by
  have := span_le t f p; have := o.small; omega

/-- one sign: on, or not -/
theorem LO.one (o : LO C t) {pc c B w sz : Nat} {r : Option Got} {f : Nat → Bool} (hpc : pc < 315) (h : oneOp (looseCode.getD pc 0) = true) (ha : Acc C pc f) (hw : itemWidth looseCode pc = w)
    (hy : ch t f p = true → Ends C c B (pc + w) (p + 1) sz V lm lp inn r) (hn : ch t f p = false → r = none) : Ends C (c + 1) B pc p sz V lm lp inn r := by
  have ho : oneOp (C.code.getD pc 0) = true := by rw [o.code]; exact h
  cases q : ch t f p with
  | true => exact ends_one (o.sz hpc) ho ha (by rw [o.code]; exact hw) (by rw [o.at?]; exact q) (hy q)
  | false => rw [hn q]; exact (ends_one_not (o.sz hpc) ho ha (by rw [o.at?]; exact q)).mono (by omega) (by omega)

theorem isAt5 {m : M} (hp : m.pos = p) (hl : m.lim = C.lim) (ht : m.text = C.text) (o : On C t) : m.isAt 5 = .ok (eot t p) := by
  unfold M.isAt eot
  simp only [hp, hl, ht, o.lim, o.text]

theorem l312 (o : LO C t) : Ends C 2 0 312 p 14 V lm lp inn (if eot t p then some ⟨p, lm, V⟩ else none) := by
  cases q : eot t p with
  | true => exact ends_at (c := 1) (k := 5) (o.sz (by decide)) (o.cd rfl) (o.cd rfl) (fun m a b c => by rw [isAt5 a b c o.toOn, q]) (ends_success (o.sz (by decide)) (o.cd rfl))
  | false => exact (ends_at_not (k := 5) (o.sz (by decide)) (o.cd rfl) (o.cd rfl) (fun m a b c => by rw [isAt5 a b c o.toOn, q])).mono (by decide) (Nat.le_refl _)

theorem eot_back {k : Nat} (h : eot t (sp t p) = false) (hk : k ≤ span t isSpace p) : eot t (p + k) = false := by
  unfold sp at h
  by_cases e : k = span t isSpace p
  · subst e; exact h
  · have h1 := span_ch k p (f := isSpace) (t := t) (by omega)
    have h2 := ch_lt h1
    unfold eot at h ⊢
    simp only [Bool.or_eq_false_iff, beq_eq_false_iff_ne, ne_eq, Bool.and_eq_false_iff] at h ⊢
    refine ⟨by omega, .inl ?_⟩
    have h3 := span_le t isSpace p
    omega

/-- behind ')' : blanks, UNTIL, the end -/
theorem l301 {i p0 : Nat} (o : LO C t) (hp : p ≤ t.size) (hl : lp.getD i { pc := 0, outer := none } = { pc := 283, count := 0, began := some p0, outer := none }) :
    Ends C (6 * t.size + 8) 30 301 p 14 V lm lp (some i) (if eot t (sp t p) then some ⟨sp t p, lm, V⟩ else none) := by
  have rest : ∀ k, k ≤ span t isSpace p → Ends C 5 15 311 (p + k) 14 V lm lp (some i) (if eot t (p + k) then some ⟨p + k, lm, V⟩ else none) := fun k hk =>
    ends_until (rp := 283) (o.sz (by decide)) (o.cd rfl) rfl hl (o.cd rfl) (o.cd rfl) (l312 o)
  refine (ends_run (c0 := 5) (c1 := 5) (B := 15) o.toOn (o.sz (by decide)) (o.cd rfl) (o.cd (v := 9) rfl) (o.cd (v := 0) rfl) (o.cd (v := 4294967295) rfl) (o.spa rfl rfl rfl rfl) hp ?_ ?_ ?_).mono ?_ (Nat.le_refl _)
  · intro _; rw [o.most]; exact rest _ (Nat.le_refl _)
  · intro hr k _ hk
    rw [o.most] at hk
    have h := rest k (by omega)
    have : eot t (sp t p) = false := by
      cases q : eot t (sp t p) with
      | false => rfl
      | true => rw [q] at hr; cases hr
    rw [eot_back this (by omega)] at h
    exact h
  · intro h; omega
  · rw [o.most]; have := span_le t isSpace p; omega

/-- '(' word ')' blanks: where it ends -/
def paren (t : Array Nat) (p : Nat) : Option Nat :=
  if ch t isLp p then (if 1 ≤ span t isWord (p + 1) then (if ch t isRp (p + 1 + span t isWord (p + 1)) then some (sp t (p + 2 + span t isWord (p + 1))) else none) else none) else none
def t2 (t : Array Nat) (p : Nat) : Option Nat := match paren t p with
  | some q => if eot t q then some q else none
  | none => if eot t p then some p else none

theorem isRp_word {c : Nat} (h : isWord c = true) : isRp c = false := by
  unfold isRp; unfold isWord isDigit at h
  simp only [Bool.or_eq_true, Bool.and_eq_true, decide_eq_true_eq, beq_iff_eq] at h
  simp only [beq_eq_false_iff_ne]; omega

theorem ch_not {f g : Nat → Bool} (h : ∀ c, f c = true → g c = false) (hp : ch t f p = true) : ch t g p = false := by
  simp only [ch_true] at hp
  unfold ch
  rw [h _ hp.2]; simp

theorem eot_ch {f : Nat → Bool} (h : ∀ c, f c = true → c ≠ 10) (hp : ch t f p = true) : eot t p = false := by
  have ⟨h1, h2⟩ := ch_true.mp hp
  have := h _ h2
  unfold eot
  simp only [Bool.or_eq_false_iff, beq_eq_false_iff_ne, ne_eq, Bool.and_eq_false_iff]
  exact ⟨by omega, .inr this⟩

theorem l283 (o : LO C t) (hp : p ≤ t.size) : Ends C (8 * t.size + 24) 75 283 p 14 V lm lp none ((t2 t p).map fun e => ⟨e, lm, V⟩) := by
  have hopt := ends_opt (C := C) (c := 8 * t.size + 13) (B := 45) (pos := p) (sz := 14) (V := V) (lm := lm) (lp := lp) (inn := none) (rp := 283) (sk := 27) (u := 311) (o.sz (by decide)) (o.cd rfl) (o.cd rfl) rfl (o.sz (by decide)) (o.cd rfl) (o.cd rfl) (o.cd rfl)
  have hl : (lpIn lp 283 p none).getD lp.size { pc := 0, outer := none } = { pc := 283, count := 0, began := some p, outer := none } := push_getD
  -- the body
  have body : Ends C (8 * t.size + 13) 45 287 p 14 V lm (lpIn lp 283 p none) (some lp.size) ((paren t p).bind fun q => if eot t q then some ⟨q, lm, V⟩ else none) := by
    refine (o.one (c := 8 * t.size + 12) (w := 2) (by decide) rfl (f := isLp) (acc_lit (o.cd rfl) (o.cd rfl)) rfl (fun q => ?_) fun q => ?_).mono (by omega) (Nat.le_refl _)
    · have hp1 : p + 1 ≤ t.size := ch_lt q
      refine (ends_run (c0 := 6 * t.size + 9) (c1 := 1) (B := 30) o.toOn (o.sz (by decide)) (o.cd rfl) (o.cd (v := 9) rfl) (o.cd (v := 1) rfl) (o.cd (v := 4294967295) rfl) (o.wor rfl rfl rfl rfl) hp1 ?_ ?_ ?_).mono ?_ (Nat.le_refl _)
      · intro h1
        rw [o.most] at h1 ⊢
        have hp2 : p + 1 + span t isWord (p + 1) ≤ t.size := by have := span_le t isWord (p + 1); omega
        refine o.one (w := 2) (by decide) rfl (f := isRp) (acc_lit (o.cd rfl) (o.cd rfl)) rfl (fun q2 => ?_) fun q2 => ?_
        · have hp3 := ch_lt q2
          have e : paren t p = some (sp t (p + 2 + span t isWord (p + 1))) := by unfold paren; rw [if_pos q, if_pos h1, if_pos q2]
          rw [e]
          rw [show p + 1 + span t isWord (p + 1) + 1 = p + 2 + span t isWord (p + 1) from by omega]
          exact l301 (V := V) (lm := lm) o (by omega) hl
        · unfold paren; rw [if_pos q, if_pos h1, if_neg (by rw [q2]; decide)]; rfl
      · intro _ k _ hk
        rw [o.most] at hk
        refine (o.one (c := 0) (B := 0) (w := 2) (by decide) rfl (f := isRp) (acc_lit (o.cd rfl) (o.cd rfl)) rfl (fun q2 => ?_) fun q2 => rfl).mono (by omega) (by omega)
        rw [ch_not (fun c => isRp_word) (span_ch k (p + 1) hk)] at q2; cases q2
      · intro h
        rw [o.most] at h
        unfold paren; rw [if_pos q, if_neg (by omega)]; rfl
      · rw [o.most]; have := span_le t isWord (p + 1); omega
    · unfold paren; rw [if_neg (by rw [q]; decide)]; rfl
  cases hpar : paren t p with
  | none =>
    rw [hpar] at body
    have := hopt.2 (c2 := 2) (r := if eot t p then some ⟨p, lm, V⟩ else none) body ((l312 o).mono (Nat.le_refl _) (by omega))
    unfold t2; rw [hpar]
    dsimp only
    cases q : eot t p <;> rw [q] at this <;> exact this.mono (by omega) (by omega)
  | some q =>
    rw [hpar] at body
    have hch : ch t isLp p = true := by
      cases h : ch t isLp p with
      | true => rfl
      | false => unfold paren at hpar; rw [if_neg (by rw [h]; decide)] at hpar; cases hpar
    unfold t2; rw [hpar]
    dsimp only
    cases h : eot t q with
    | true =>
      simp only [Option.bind_some, h, if_true] at body
      exact (hopt.1 body).mono (by omega) (by omega)
    | false =>
      simp only [Option.bind_some, h, Bool.false_eq_true, if_false] at body
      have h12 := l312 (V := V) (lm := lm) (lp := lpOut lp 283 none) (inn := none) (p := p) o
      rw [eot_ch (f := isLp) (fun c h => by unfold isLp at h; simp at h; omega) hch] at h12
      exact (hopt.2 (c2 := 2) body (h12.mono (Nat.le_refl _) (by omega))).mono (by omega) (by omega)

/-- the same where no bracket opens: few steps -/
theorem l283s (o : LO C t) (hp : p ≤ t.size) (hb : ch t isLp p = false) : Ends C 10 30 283 p 14 V lm lp none (if eot t p then some ⟨p, lm, V⟩ else none) := by
  have hopt := ends_opt (C := C) (c := 1) (B := 0) (pos := p) (sz := 14) (V := V) (lm := lm) (lp := lp) (inn := none) (rp := 283) (sk := 27) (u := 311) (o.sz (by decide)) (o.cd rfl) (o.cd rfl) rfl (o.sz (by decide)) (o.cd rfl) (o.cd rfl) (o.cd rfl)
  have body : Ends C 1 0 287 p 14 V lm (lpIn lp 283 p none) (some lp.size) none :=
    o.one (c := 0) (B := 0) (w := 2) (by decide) rfl (f := isLp) (acc_lit (o.cd rfl) (o.cd rfl)) rfl (fun q2 => by rw [hb] at q2; cases q2) fun q2 => rfl
  exact (hopt.2 (c2 := 2) body (l312 o)).mono (by omega) (by omega)

theorem t2_none_eot (h : t2 t p = none) : eot t p = false := by
  unfold t2 at h
  cases hp : paren t p with
  | none => rw [hp] at h; dsimp only at h; cases q : eot t p with
    | false => rfl
    | true => rw [q] at h; cases h
  | some q =>
    refine eot_ch (f := isLp) (fun c h => by unfold isLp at h; simp at h; omega) ?_
    cases h2 : ch t isLp p with
    | true => rfl
    | false => unfold paren at hp; rw [if_neg (by rw [h2]; decide)] at hp; cases hp
theorem t2_np (h : ch t isLp p = false) : t2 t p = if eot t p then some p else none := by
  unfold t2 paren; rw [if_neg (by rw [h]; decide)]

theorem sp_le (hp : p ≤ t.size) : sp t p ≤ t.size := by have := span_le t isSpace p; unfold sp; omega
theorem space_lp {c : Nat} (h : isSpace c = true) : isLp c = false := by
  unfold isSpace at h; unfold isLp
  simp only [Bool.or_eq_true, Bool.and_eq_true, decide_eq_true_eq, beq_iff_eq] at h
  simp only [beq_eq_false_iff_ne]; omega

theorem l282 {i q0 : Nat} (o : LO C t) (hp : p ≤ t.size) (hl : lp.getD i { pc := 0, outer := none } = { pc := 195, count := 0, began := some q0, outer := none }) :
    Ends C (8 * t.size + 27) 90 282 p 14 V lm lp (some i) ((t2 t p).map fun e => ⟨e, lm, V⟩) :=
  ends_until (rp := 195) (B := 75) (c := 8 * t.size + 24) (o.sz (by decide)) (o.cd rfl) rfl hl (o.cd rfl) (o.cd rfl) (l283 o hp)
theorem l282s {i q0 : Nat} (o : LO C t) (hp : p ≤ t.size) (hb : ch t isLp p = false) (hl : lp.getD i { pc := 0, outer := none } = { pc := 195, count := 0, began := some q0, outer := none }) :
    Ends C 13 45 282 p 14 V lm lp (some i) (if eot t p then some ⟨p, lm, V⟩ else none) :=
  ends_until (rp := 195) (B := 30) (c := 10) (o.sz (by decide)) (o.cd rfl) rfl hl (o.cd rfl) (o.cd rfl) (l283s o hp hb)

theorem l272 {i q0 : Nat} (o : LO C t) (hp : p ≤ t.size) (hl : lp.getD i { pc := 0, outer := none } = { pc := 195, count := 0, began := some q0, outer := none }) :
    Ends C (22 * t.size + 29) 105 272 p 14 V lm lp (some i) ((t2 t (sp t p)).map fun e => ⟨e, lm, V⟩) := by
  refine (ends_run (c0 := 8 * t.size + 27) (c1 := 13) (B := 90) o.toOn (o.sz (by decide)) (o.cd rfl) (o.cd (v := 9) rfl) (o.cd (v := 0) rfl) (o.cd (v := 4294967295) rfl) (o.spa rfl rfl rfl rfl) hp ?_ ?_ ?_).mono ?_ (Nat.le_refl _)
  · intro _; rw [o.most]; exact l282 o (sp_le hp) hl
  · intro hr k _ hk
    rw [o.most] at hk
    have h2 : t2 t (sp t p) = none := by cases q : t2 t (sp t p) with
      | none => rfl
      | some g => rw [q] at hr; cases hr
    have h3 := l282s (V := V) (lm := lm) (p := p + k) o (by have := span_le t isSpace p; omega) (ch_not (fun c => space_lp) (span_ch k p hk)) hl
    rw [eot_back (t2_none_eot h2) (by omega)] at h3
    exact h3.mono (Nat.le_refl _) (by omega)
  · intro h; omega
  · rw [o.most]; have := span_le t isSpace p; omega

/-- at a sign that neither goes on nor ends -/
theorem l272s {i q0 : Nat} {f : Nat → Bool} (o : LO C t) (hf : ch t f p = true) (h1 : ∀ c, f c = true → isSpace c = false) (h2 : ∀ c, f c = true → isLp c = false) (h3 : ∀ c, f c = true → c ≠ 10)
    (hl : lp.getD i { pc := 0, outer := none } = { pc := 195, count := 0, began := some q0, outer := none }) : Ends C 15 60 272 p 14 V lm lp (some i) none := by
  have hp := ch_lt hf
  have h0 : span t isSpace p = 0 := span_zero.mpr (ch_not h1 hf)
  refine (ends_run (c0 := 13) (c1 := 0) (B := 45) o.toOn (o.sz (by decide)) (o.cd rfl) (o.cd (v := 9) rfl) (o.cd (v := 0) rfl) (o.cd (v := 4294967295) rfl) (o.spa rfl rfl rfl rfl) (Nat.le_of_lt hp) ?_ ?_ ?_).mono ?_ (Nat.le_refl _)
  · intro _
    rw [o.most, h0]
    have := l282s (V := V) (lm := lm) (p := p) o (Nat.le_of_lt hp) (ch_not h2 hf) hl
    rw [eot_ch h3 hf] at this
    exact this
  · intro _ k _ hk; rw [o.most, h0] at hk; omega
  · intro h; omega
  · rw [o.most, h0]; omega

theorem digit_space {c : Nat} (h : isDigit c = true) : isSpace c = false := by
  unfold isDigit at h; unfold isSpace
  simp only [Bool.and_eq_true, decide_eq_true_eq] at h
  simp only [Bool.or_eq_false_iff, Bool.and_eq_false_iff, decide_eq_false_iff_not, beq_eq_false_iff_ne]; omega
theorem digit_lp {c : Nat} (h : isDigit c = true) : isLp c = false := by
  unfold isDigit at h; unfold isLp
  simp only [Bool.and_eq_true, decide_eq_true_eq] at h
  simp only [beq_eq_false_iff_ne]; omega
theorem digit_nl {c : Nat} (h : isDigit c = true) : c ≠ 10 := by
  unfold isDigit at h
  simp only [Bool.and_eq_true, decide_eq_true_eq] at h; omega
theorem alpha_space {c : Nat} (h : isAlpha c = true) : isSpace c = false := by
  unfold isAlpha at h; unfold isSpace
  simp only [Bool.or_eq_true, Bool.and_eq_true, decide_eq_true_eq] at h
  simp only [Bool.or_eq_false_iff, Bool.and_eq_false_iff, decide_eq_false_iff_not, beq_eq_false_iff_ne]; omega
theorem alpha_lp {c : Nat} (h : isAlpha c = true) : isLp c = false := by
  unfold isAlpha at h; unfold isLp
  simp only [Bool.or_eq_true, Bool.and_eq_true, decide_eq_true_eq] at h
  simp only [beq_eq_false_iff_ne]; omega
theorem alpha_nl {c : Nat} (h : isAlpha c = true) : c ≠ 10 := by
  unfold isAlpha at h
  simp only [Bool.or_eq_true, Bool.and_eq_true, decide_eq_true_eq] at h; omega
theorem sign_digit {c : Nat} (h : isSign c = true) : isDigit c = false := by
  unfold isSign at h; unfold isDigit
  simp only [Bool.or_eq_true, beq_iff_eq] at h
  simp only [Bool.and_eq_false_iff, decide_eq_false_iff_not]; omega

/-- the zone's end is z: what stands behind -/
def gZ (t : Array Nat) (V : Nat → Option Nat) (z : Nat) : Option Got := (t2 t (sp t z)).map fun e => ⟨e, 13, setV V 12 13 z⟩
/-- a zone in figures -/
def zd (t : Array Nat) (q : Nat) : Option Nat :=
  if 2 ≤ min 4 (span t isDigit (q + min 1 (span t isSign q))) then some (q + min 1 (span t isSign q) + min 4 (span t isDigit (q + min 1 (span t isSign q)))) else none
def ampm (t : Array Nat) (q : Nat) : Bool := ch t isAP q && (ch t isMm (q + 1) && !ch t isWord (q + 2))
/-- a zone in letters -/
def zl (t : Array Nat) (q : Nat) : Option Nat := if ampm t q then none else if 1 ≤ span t isAlpha q then some (q + span t isAlpha q) else none

theorem l270 {i q0 : Nat} (o : LO C t) (hp : p ≤ t.size) (hl : lp.getD i { pc := 0, outer := none } = { pc := 195, count := 0, began := some q0, outer := none }) :
    Ends C (22 * t.size + 30) 105 270 p 14 V 12 lp (some i) (gZ t V p) :=
  ends_mark (i := 13) (o.sz (by decide)) (o.cd rfl) (o.cd rfl) (by decide) (by decide) (l272 o hp hl)
theorem l270s {i q0 : Nat} {f : Nat → Bool} (o : LO C t) (hf : ch t f p = true) (h1 : ∀ c, f c = true → isSpace c = false) (h2 : ∀ c, f c = true → isLp c = false) (h3 : ∀ c, f c = true → c ≠ 10)
    (hl : lp.getD i { pc := 0, outer := none } = { pc := 195, count := 0, began := some q0, outer := none }) : Ends C 16 60 270 p 14 V 12 lp (some i) none :=
  ends_mark (i := 13) (o.sz (by decide)) (o.cd rfl) (o.cd rfl) (by decide) (by decide) (l272s o hf h1 h2 h3 hl)

theorem l215 {i q0 : Nat} (o : LO C t) (hp : p ≤ t.size) (hl : lp.getD i { pc := 0, outer := none } = { pc := 195, count := 0, began := some q0, outer := none }) :
    Ends C (22 * t.size + 110) 120 215 p 14 V 12 lp (some i) (if 2 ≤ min 4 (span t isDigit p) then gZ t V (p + min 4 (span t isDigit p)) else none) := by
  have hle := span_le t isDigit p
  refine (ends_run (c0 := 22 * t.size + 31) (c1 := 17) (B := 105) o.toOn (o.sz (by decide)) (o.cd rfl) (o.cd (v := 9) rfl) (o.cd (v := 2) rfl) (o.cd (v := 4) rfl) (o.dig rfl rfl rfl rfl) hp ?_ ?_ ?_).mono ?_ (Nat.le_refl _)
  · intro h; rw [if_pos h]
    exact ends_jump (k := 44) (o.sz (by decide)) (o.cd rfl) (o.cd rfl) (l270 o (by omega) hl)
  · intro _ k _ hk
    exact (ends_jump (k := 44) (o.sz (by decide)) (o.cd rfl) (o.cd rfl) (l270s (f := isDigit) o (span_ch k p (by omega)) (fun c => digit_space) (fun c => digit_lp) (fun c => digit_nl) hl)).mono (Nat.le_refl _) (by omega)
  · intro h; rw [if_neg (by omega)]
  · omega

theorem l203 {i q0 : Nat} (o : LO C t) (hp : p ≤ t.size) (hl : lp.getD i { pc := 0, outer := none } = { pc := 195, count := 0, began := some q0, outer := none }) :
    Ends C (22 * t.size + 240) 135 203 p 14 V 12 lp (some i) ((zd t p).bind (gZ t V)) := by
  have hle := span_le t isSign p
  refine (ends_run (c0 := 22 * t.size + 110) (c1 := 1) (B := 120) o.toOn (f := isSign) (o.sz (by decide)) (o.cd rfl) (o.cd (v := 11) rfl) (o.cd (v := 0) rfl) (o.cd (v := 1) rfl)
    (acc_two (o.sz (by decide)) (o.cd rfl) (o.cd rfl) (o.cd rfl) (o.cd rfl) (o.cd rfl) (o.cd rfl)) hp ?_ ?_ ?_).mono ?_ (Nat.le_refl _)
  · intro _
    have := l215 (V := V) (p := p + min 1 (span t isSign p)) o (by omega) hl
    unfold zd
    by_cases q : 2 ≤ min 4 (span t isDigit (p + min 1 (span t isSign p)))
    · rw [if_pos q] at this ⊢; exact this
    · rw [if_neg q] at this ⊢; exact this
  · intro _ k _ hk
    have hk0 : k = 0 := by omega
    subst hk0
    have hc : ch t isSign p = true := span_pos.mp (by omega)
    have h0 : span t isDigit p = 0 := span_zero.mpr (ch_not (fun c => sign_digit) hc)
    exact (ends_rep1_few (f := isDigit) (n := 0) (o.sz (by decide)) (o.cd rfl) (o.cd (v := 2) rfl) (o.cd (v := 4) rfl) (o.dig rfl rfl rfl rfl) (by rw [o.runs, Nat.add_zero, h0]; rfl) (by rw [o.lim]; omega) (by decide)).mono (Nat.le_refl _) (by omega)
  · intro h; omega
  · omega

theorem l253 {i q0 : Nat} (o : LO C t) (hp : p ≤ t.size) (hl : lp.getD i { pc := 0, outer := none } = { pc := 195, count := 0, began := some q0, outer := none }) :
    Ends C (40 * t.size + 33) 120 253 p 14 V 12 lp (some i) (if 1 ≤ span t isAlpha p then gZ t V (p + span t isAlpha p) else none) := by
  have hle := span_le t isAlpha p
  refine (ends_run (c0 := 22 * t.size + 31) (c1 := 17) (B := 105) o.toOn (f := isAlpha) (o.sz (by decide)) (o.cd rfl) (o.cd (v := 13) rfl) (o.cd (v := 1) rfl) (o.cd (v := 4294967295) rfl)
    (acc_range2 (o.sz (by decide)) (o.cd rfl) (o.cd rfl) (o.cd rfl) (o.cd rfl) (o.cd rfl) (o.cd rfl) (o.cd rfl) (o.cd rfl)) hp ?_ ?_ ?_).mono ?_ (Nat.le_refl _)
  · intro h; rw [o.most] at h ⊢; rw [if_pos h]
    exact ends_jump (k := 2) (o.sz (by decide)) (o.cd rfl) (o.cd rfl) (l270 o (by omega) hl)
  · intro _ k _ hk
    rw [o.most] at hk
    exact (ends_jump (k := 2) (o.sz (by decide)) (o.cd rfl) (o.cd rfl) (l270s (f := isAlpha) o (span_ch k p (by omega)) (fun c => alpha_space) (fun c => alpha_lp) (fun c => alpha_nl) hl)).mono (Nat.le_refl _) (by omega)
  · intro h; rw [o.most] at h; rw [if_neg (by omega)]
  · rw [o.most]; omega

theorem mm_word {c : Nat} (h : isMm c = true) : isWord c = true := by
  unfold isMm at h; unfold isWord isDigit
  simp only [Bool.or_eq_true, beq_iff_eq] at h
  simp only [Bool.or_eq_true, Bool.and_eq_true, decide_eq_true_eq, beq_iff_eq]; omega

theorem isAt3 {m : M} (hp : m.pos = p + 2) (hl : m.lim = C.lim) (ht : m.text = C.text) (o : On C t) (hm : ch t isMm (p + 1) = true) : m.isAt 3 = .ok (!ch t isWord (p + 2)) := by
  have ⟨h1, h2⟩ := ch_true.mp hm
  have h3 : isWord (t.getD (p + 1) 0) = true := mm_word h2
  unfold M.isAt ch
  simp only [hp, hl, ht, o.lim, o.text]
  rw [show p + 2 - 1 = p + 1 from rfl, h3]
  have : (t.size != 0) = true := bne_iff_ne.mpr (by omega)
  rw [this]
  simp

theorem acc_ap (o : LO C t) : Acc C 231 isAP := by
  refine acc_charset (o.sz (by decide)) (o.cd rfl) (o.cd rfl) (o.cd rfl) fun c => ?_
  rw [o.code]
  by_cases h : c < 256
  · rw [decide_eq_true h, Bool.true_and]
    have : ∀ c : Fin 256, (looseCode.getD (231 + 2 + (1 + c.val / 32)) 0).testBit (c.val % 32) = isAP c.val := by decide +kernel
    exact this ⟨c, h⟩
  · rw [decide_eq_false h, Bool.false_and]
    unfold isAP
    symm
    simp only [Bool.or_eq_false_iff, beq_eq_false_iff_ne]; omega

theorem step_at {pc pos hd : Nat} {ob : Bool} {mk : Array (Option Nat)} {li : Int} {fr : List Sre.Frame} {wt k : Nat} {sn : Seen} (hpc : pc < C.code.size) (ho : C.code.getD pc 0 = 6) (hk : C.code.getD (pc + 1) 0 = k)
    (hat : ∀ m : M, m.pos = pos → m.lim = C.lim → m.text = C.text → m.isAt k = .ok true) :
    (St C pc pos hd ob mk lm li lp inn fr wt none sn).step = St C (pc + 2) pos hd ob mk lm li lp inn fr wt none ((sn.add 6).add (43 + k)) := by
  rw [step_run hpc]
  unfold M.exec
  have e6 : (ops[(6:Nat)]? : Option Op) = some .AT := rfl
  simp only [M.word, Nat.add_zero, ho, e6, hk]
  rw [hat _ rfl rfl rfl]
  rfl
theorem step_success {pc pos hd : Nat} {ob : Bool} {mk : Array (Option Nat)} {li : Int} {fr : List Sre.Frame} {wt : Nat} {sn : Seen} (hpc : pc < C.code.size) (ho : C.code.getD pc 0 = 1) :
    (St C pc pos hd ob mk lm li lp inn fr wt none sn).step = St C pc pos pos ob mk lm li lp inn fr wt (some true) (sn.add 1) := by
  rw [step_run hpc]
  unfold M.exec
  have e : (ops[(1:Nat)]? : Option Op) = some .SUCCESS := rfl
  simp only [M.word, Nat.add_zero, ho, e]
  simp only [Bool.false_and, Bool.or_false, Bool.and_false, Bool.false_eq_true, if_false]
  rfl

theorem l228 {i q0 : Nat} (o : LO C t) (hp : p ≤ t.size) (hl : lp.getD i { pc := 0, outer := none } = { pc := 195, count := 0, began := some q0, outer := none }) :
    Ends C (40 * t.size + 45) 135 228 p 14 V 12 lp (some i) ((zl t p).bind (gZ t V)) := by
  cases q : ampm t p with
  | true =>
    have hz : zl t p = none := by unfold zl; rw [if_pos q]
    rw [hz]
    unfold ampm at q
    simp only [Bool.and_eq_true] at q
    obtain ⟨qa, qm, qw⟩ := q
    refine (ends_not_stop (c := 4) (sk := 24) (o.sz (by decide)) (o.cd rfl) (o.cd rfl) (o.cd rfl) fun ob hd li mk fr wt sn => ?_).mono (by omega) (by omega)
    obtain ⟨s1, e1⟩ := step_one (hd := hd) (ob := ob) (mk := mk) (lm := 12) (li := li) (lp := lp) (inn := some i) (fr := fr) (wt := wt) (sn := sn) (pc := 231) (b := true) (o.sz (by decide)) (by rw [o.code]; rfl)
      (by rw [o.lim]; exact ch_lt qa) (acc_ap o) (by rw [o.text]; exact (ch_true.mp qa).2)
    have w1 : itemWidth C.code 231 = 12 := by rw [o.code]; rfl
    rw [if_pos rfl, w1] at e1
    obtain ⟨s2, e2⟩ := step_one (hd := hd) (ob := ob) (mk := mk) (lm := 12) (li := li) (lp := lp) (inn := some i) (fr := fr) (wt := wt) (sn := s1) (pc := 243) (pos := p + 1) (b := true) (f := isMm) (o.sz (by decide)) (by rw [o.code]; rfl)
      (by rw [o.lim]; exact ch_lt qm) (acc_two (o.sz (by decide)) (o.cd rfl) (o.cd rfl) (o.cd rfl) (o.cd rfl) (o.cd rfl) (o.cd rfl)) (by rw [o.text]; exact (ch_true.mp qm).2)
    have w2 : itemWidth C.code 243 = 7 := by rw [o.code]; rfl
    rw [if_pos rfl, w2] at e2
    have e3 := step_at (hd := hd) (ob := ob) (mk := mk) (lm := 12) (li := li) (lp := lp) (inn := some i) (fr := fr) (wt := wt) (sn := s2) (pc := 250) (pos := p + 2) (k := 3) (o.sz (by decide)) (o.cd rfl) (o.cd rfl)
      (fun m a b c => by rw [isAt3 a b c o.toOn qm, qw])
    have e4 := step_success (hd := hd) (ob := ob) (mk := mk) (lm := 12) (li := li) (lp := lp) (inn := some i) (fr := fr) (wt := wt) (sn := (s2.add 6).add (43 + 3)) (pc := 252) (pos := p + 2) (o.sz (by decide)) (o.cd rfl)
    refine ⟨4, Nat.le_refl _, 252, p + 2, p + 2, ob, li, ((s2.add 6).add (43 + 3)).add 1, ?_⟩
    show M.step (M.step (M.step (M.step (St C 231 p hd ob mk 12 li lp (some i) fr wt none sn)))) = _
    rw [e1, e2, e3, e4]
  | false =>
    have hz : (zl t p).bind (gZ t V) = if 1 ≤ span t isAlpha p then gZ t V (p + span t isAlpha p) else none := by
      unfold zl; rw [q, if_neg (by decide)]
      split <;> rfl
    rw [hz]
    refine (ends_not_pass (c := 3) (c2 := 40 * t.size + 33) (B := 120) (sk := 24) (o.sz (by decide)) (o.cd rfl) (o.cd rfl) (o.cd rfl) ?_ (l253 o hp hl)).mono (by omega) (Nat.le_refl _)
    unfold ampm at q
    refine (o.one (c := 2) (B := 0) (w := 12) (f := isAP) (by decide) rfl (acc_ap o) rfl (fun q1 => ?_) fun q1 => rfl).mono (by omega) (by omega)
    refine (o.one (c := 1) (B := 0) (w := 7) (f := isMm) (by decide) rfl (acc_two (o.sz (by decide)) (o.cd rfl) (o.cd rfl) (o.cd rfl) (o.cd rfl) (o.cd rfl) (o.cd rfl)) rfl (fun q2 => ?_) fun q2 => rfl).mono (by omega) (by omega)
    rw [q1, q2, Bool.true_and, Bool.true_and] at q
    exact ends_at_not (k := 3) (o.sz (by decide)) (o.cd rfl) (o.cd rfl) (fun m a b c => by rw [isAt3 a b c o.toOn q2, q])

end
end Mine
end

section
open PySem PySem.Sre
set_option Elab.async false
set_option linter.unusedVariables false
set_option maxRecDepth 100000
namespace Mine
section
variable {C : Cx} {t : Array Nat} {V : Nat → Option Nat} {lm : Int} {lp : Array Loop} {inn : Option Nat} {p : Nat}

/-- a branch of two ways -/
theorem ends_two {c1 c2 B pc d1 d2 sz : Nat} {r1 r2 : Option Got} (hpc : pc < C.code.size) (ho : C.code.getD pc 0 = 7) (hd1 : C.code.getD (pc + 1) 0 = d1 + 1) (hd2 : C.code.getD (pc + 1 + (d1 + 1)) 0 = d2 + 1) (h0 : C.code.getD (pc + 1 + (d1 + 1) + (d2 + 1)) 0 = 0)
    (h1 : Ends C c1 B (pc + 2) p sz V lm lp inn r1) (h2 : Ends C c2 B (pc + 1 + (d1 + 1) + 1) p sz V lm lp inn r2) : Ends C (c1 + c2 + 4) (B + 1 + sz) pc p sz V lm lp inn (r1.or r2) := by
  cases r1 with
  | some g => exact (ends_branch hpc ho (alts_win hd1 h1)).mono (by omega) (Nat.le_refl _)
  | none =>
    cases r2 with
    | some g => exact (ends_branch hpc ho (alts_next hd1 h1 (alts_win hd2 h2) (Nat.le_refl _))).mono (by omega) (Nat.le_refl _)
    | none => exact (ends_branch hpc ho (alts_next hd1 h1 (alts_next hd2 h2 (alts_nil h0) (Nat.zero_le _)) (Nat.le_refl _))).mono (by omega) (Nat.le_refl _)

/-- something once or not at all -/
theorem ends_may {c c2 B rp sk u sz : Nat} {r1 r2 : Option Got} (hpc : rp < C.code.size) (ho : C.code.getD rp 0 = 23) (hk : C.code.getD (rp + 1) 0 = sk) (hu : u = rp + 1 + sk) (hpcu : u < C.code.size) (hou : C.code.getD u 0 = 18)
    (h0 : C.code.getD (rp + 2) 0 = 0) (h1 : C.code.getD (rp + 3) 0 = 1) (hb : Ends C c B (rp + 4) p sz V lm (lpIn lp rp p inn) (some lp.size) r1) (ht : Ends C c2 B (u + 1) p sz V lm (lpOut lp rp inn) inn r2) :
    Ends C (c + c2 + 7) (B + 1 + sz + 1 + sz) rp p sz V lm lp inn (r1.or r2) := by
  have hopt := ends_opt (C := C) (c := c) (B := B) (pos := p) (sz := sz) (V := V) (lm := lm) (lp := lp) (inn := inn) hpc ho hk hu hpcu hou h0 h1
  cases r1 with
  | some g => exact (hopt.1 hb).mono (by omega) (Nat.le_refl _)
  | none => exact hopt.2 hb ht

def gZB (t : Array Nat) (V : Nat → Option Nat) (lm : Int) (q : Nat) : Option Got :=
  ((zd t q).bind (gZ t (setV V lm 12 q))).or ((zl t q).bind (gZ t (setV V lm 12 q)))
def gT0 (t : Array Nat) (V : Nat → Option Nat) (lm : Int) (q : Nat) : Option Got := (gZB t V lm q).or ((t2 t q).map fun e => ⟨e, lm, V⟩)
def gT1 (t : Array Nat) (V : Nat → Option Nat) (lm : Int) (p : Nat) : Option Got := gT0 t V lm (sp t p)

theorem l199 {i q0 : Nat} (o : LO C t) (hp : p ≤ t.size) (hlm : lm < 12) (hl : lp.getD i { pc := 0, outer := none } = { pc := 195, count := 0, began := some q0, outer := none }) :
    Ends C (62 * t.size + 290) 150 199 p 14 V lm lp (some i) (gZB t V lm p) :=
  ends_mark (c := 62 * t.size + 289) (i := 12) (o.sz (by decide)) (o.cd rfl) (o.cd rfl) hlm (by decide)
    ((ends_two (d1 := 24) (d2 := 41) (o.sz (by decide)) (o.cd rfl) (o.cd rfl) (o.cd rfl) (o.cd rfl) (l203 o hp hl) (l228 o hp hl)).mono (by omega) (Nat.le_refl _))

theorem l195 (o : LO C t) (hp : p ≤ t.size) (hlm : lm < 12) : Ends C (70 * t.size + 321) 180 195 p 14 V lm lp none (gT0 t V lm p) :=
  (ends_may (rp := 195) (sk := 86) (u := 282) (o.sz (by decide)) (o.cd rfl) (o.cd rfl) rfl (o.sz (by decide)) (o.cd rfl) (o.cd rfl) (o.cd rfl) (l199 o hp hlm push_getD) ((l283 o hp).mono (Nat.le_refl _) (by decide))).mono (by omega) (by decide)

/-- a sign at which no zone and no bracket begins -/
structure Dull (c : Nat) : Prop where
  sign : isSign c = false
  digit : isDigit c = false
  alpha : isAlpha c = false
  lpar : isLp c = false
theorem space_dull {c : Nat} (h : isSpace c = true) : Dull c := by
  have h' := h
  unfold isSpace at h
  simp only [Bool.or_eq_true, Bool.and_eq_true, decide_eq_true_eq, beq_iff_eq] at h
  refine ⟨?_, ?_, ?_, space_lp h'⟩
  · unfold isSign; simp only [Bool.or_eq_false_iff, beq_eq_false_iff_ne]; omega
  · unfold isDigit; simp only [Bool.and_eq_false_iff, decide_eq_false_iff_not]; omega
  · unfold isAlpha; simp only [Bool.or_eq_false_iff, Bool.and_eq_false_iff, decide_eq_false_iff_not]; omega
theorem ap_alpha {c : Nat} (h : isAP c = true) : isAlpha c = true := by
  unfold isAP at h; unfold isAlpha
  simp only [Bool.or_eq_true, beq_iff_eq] at h
  simp only [Bool.or_eq_true, Bool.and_eq_true, decide_eq_true_eq]; omega

theorem l195s {f : Nat → Bool} (o : LO C t) (hf : ch t f p = true) (hd : ∀ c, f c = true → Dull c) (hlm : lm < 12) : Ends C 40 90 195 p 14 V lm lp none (if eot t p then some ⟨p, lm, V⟩ else none) := by
  have hp := ch_lt hf
  have h1 : span t isSign p = 0 := span_zero.mpr (ch_not (fun c h => (hd c h).sign) hf)
  have h2 : span t isDigit p = 0 := span_zero.mpr (ch_not (fun c h => (hd c h).digit) hf)
  have h3 : span t isAlpha p = 0 := span_zero.mpr (ch_not (fun c h => (hd c h).alpha) hf)
  have h4 : ch t isAP p = false := ch_not (fun c h => by
    cases q : isAP c with
    | false => rfl
    | true => have := ap_alpha q; rw [(hd c h).alpha] at this; cases this) hf
  have body : Ends C 20 60 199 p 14 V lm (lpIn lp 195 p none) (some lp.size) none := by
    refine ends_mark (c := 19) (i := 12) (o.sz (by decide)) (o.cd rfl) (o.cd rfl) hlm (by decide) ?_
    have a1 : Ends C 3 15 203 p 14 (setV V lm 12 p) 12 (lpIn lp 195 p none) (some lp.size) none := by
      refine (ends_run (c0 := 1) (c1 := 0) (B := 0) o.toOn (f := isSign) (o.sz (by decide)) (o.cd rfl) (o.cd (v := 11) rfl) (o.cd (v := 0) rfl) (o.cd (v := 1) rfl)
        (acc_two (o.sz (by decide)) (o.cd rfl) (o.cd rfl) (o.cd rfl) (o.cd rfl) (o.cd rfl) (o.cd rfl)) (Nat.le_of_lt hp) ?_ ?_ ?_).mono ?_ (Nat.le_refl _)
      · intro _; rw [h1]
        exact ends_rep1_few (f := isDigit) (n := 0) (o.sz (by decide)) (o.cd rfl) (o.cd (v := 2) rfl) (o.cd (v := 4) rfl) (o.dig rfl rfl rfl rfl) (by rw [o.runs]; rw [show p + min 1 0 = p from rfl, h2]; rfl) (by rw [o.lim]; omega) (by decide)
      · intro _ k _ hk; rw [h1] at hk; omega
      · intro h; omega
      · rw [h1]; decide
    have a2 : Ends C 4 15 228 p 14 (setV V lm 12 p) 12 (lpIn lp 195 p none) (some lp.size) none := by
      refine (ends_not_pass (c := 1) (c2 := 1) (B := 0) (sk := 24) (o.sz (by decide)) (o.cd rfl) (o.cd rfl) (o.cd rfl) ?_ ?_).mono (by decide) (by decide)
      · exact o.one (c := 0) (B := 0) (w := 12) (f := isAP) (by decide) rfl (acc_ap o) rfl (fun q1 => by rw [h4] at q1; cases q1) fun q1 => rfl
      · exact ends_rep1_few (f := isAlpha) (n := 0) (o.sz (by decide)) (o.cd rfl) (o.cd (v := 1) rfl) (o.cd (v := 4294967295) rfl)
          (acc_range2 (o.sz (by decide)) (o.cd rfl) (o.cd rfl) (o.cd rfl) (o.cd rfl) (o.cd rfl) (o.cd rfl) (o.cd rfl) (o.cd rfl)) (by rw [o.runs, h3]; rfl) (by rw [o.lim]; omega) (by decide)
    exact (ends_two (d1 := 24) (d2 := 41) (o.sz (by decide)) (o.cd rfl) (o.cd rfl) (o.cd rfl) (o.cd rfl) a1 a2).mono (by decide) (by decide)
  have := ends_may (V := V) (lm := lm) (lp := lp) (inn := none) (rp := 195) (sk := 86) (u := 282) (o.sz (by decide)) (o.cd rfl) (o.cd rfl) rfl (o.sz (by decide)) (o.cd rfl) (o.cd rfl) (o.cd rfl) body
    ((l283s o (Nat.le_of_lt hp) (ch_not (fun c h => (hd c h).lpar) hf)).mono (Nat.le_refl _) (by decide))
  exact this.mono (by decide) (by decide)

theorem gT0_none (h : gT0 t V lm p = none) : t2 t p = none := by
  unfold gT0 at h
  have := (Option.or_eq_none_iff.mp h).2
  cases q : t2 t p with
  | none => rfl
  | some e => rw [q] at this; cases this

theorem l185 (o : LO C t) (hp : p ≤ t.size) (hlm : lm < 12) : Ends C (111 * t.size + 323) 195 185 p 14 V lm lp none (gT1 t V lm p) := by
  refine (ends_run (c0 := 70 * t.size + 321) (c1 := 40) (B := 180) o.toOn (o.sz (by decide)) (o.cd rfl) (o.cd (v := 9) rfl) (o.cd (v := 0) rfl) (o.cd (v := 4294967295) rfl) (o.spa rfl rfl rfl rfl) hp ?_ ?_ ?_).mono ?_ (Nat.le_refl _)
  · intro _; rw [o.most]; exact l195 o (sp_le hp) hlm
  · intro hr k _ hk
    rw [o.most] at hk
    have h3 := l195s (V := V) (lm := lm) (lp := lp) (p := p + k) o (span_ch k p hk) (fun c => space_dull) hlm
    rw [eot_back (t2_none_eot (gT0_none hr)) (by omega)] at h3
    exact h3.mono (Nat.le_refl _) (by decide)
  · intro h; omega
  · rw [o.most]; have := span_le t isSpace p; omega

theorem l184 {i p0 : Nat} (o : LO C t) (hp : p ≤ t.size) (hlm : lm < 12) (hl : lp.getD i { pc := 0, outer := none } = { pc := 104, count := 0, began := some p0, outer := none }) :
    Ends C (111 * t.size + 326) 210 184 p 14 V lm lp (some i) (gT1 t V lm p) :=
  ends_until (rp := 104) (B := 195) (c := 111 * t.size + 323) (o.sz (by decide)) (o.cd rfl) rfl hl (o.cd rfl) (o.cd rfl) (l185 o hp hlm)

def gSB (t : Array Nat) (V : Nat → Option Nat) (m : Nat) : Option Got :=
  if ch t isCo m then (if ch t isDigit (m + 1) then (if ch t isDigit (m + 2) then gT1 t (setV (setV V 9 10 (m + 1)) 10 11 (m + 3)) 11 (m + 3) else none) else none) else none
def gS (t : Array Nat) (V : Nat → Option Nat) (m : Nat) : Option Got := (gSB t V m).or (gT1 t V 9 m)

theorem push_keeps {i : Nat} {x y d : Loop} (h : lp.getD i d = y) (hi : i < lp.size) : (lp.push x).getD i d = y := by
  rw [← h]; simp only [Array.getD_eq_getD_getElem?]; rw [Array.getElem?_push, if_neg (by omega)]

theorem l163 {i p0 : Nat} (o : LO C t) (hp : p ≤ t.size) (hi : i < lp.size) (hl : lp.getD i { pc := 0, outer := none } = { pc := 104, count := 0, began := some p0, outer := none }) :
    Ends C (222 * t.size + 680) 255 163 p 14 V 9 lp (some i) (gS t V p) := by
  have body : Ends C (111 * t.size + 340) 225 167 p 14 V 9 (lpIn lp 163 p (some i)) (some lp.size) (gSB t V p) := by
    have hl1 : (lpIn lp 163 p (some i)).getD lp.size { pc := 0, outer := none } = { pc := 163, count := 0, began := some p, outer := some i } := push_getD
    have hl2 : (lpIn lp 163 p (some i)).getD i { pc := 0, outer := none } = { pc := 104, count := 0, began := some p0, outer := none } := push_keeps hl hi
    unfold gSB
    refine (o.one (c := 111 * t.size + 333) (B := 225) (w := 2) (f := isCo) (by decide) rfl (acc_lit (o.cd rfl) (o.cd rfl)) rfl (fun q1 => ?_) fun q1 => by rw [if_neg (by rw [q1]; decide)]).mono (by omega) (Nat.le_refl _)
    rw [if_pos q1]
    refine ends_mark (c := 111 * t.size + 332) (i := 10) (o.sz (by decide)) (o.cd rfl) (o.cd rfl) (by decide) (by decide) ?_
    refine o.one (c := 111 * t.size + 331) (B := 225) (w := 5) (f := isDigit) (by decide) rfl (o.dig rfl rfl rfl rfl) rfl (fun q2 => ?_) fun q2 => by rw [if_neg (by rw [q2]; decide)]
    rw [if_pos q2]
    refine o.one (c := 111 * t.size + 330) (B := 225) (w := 5) (f := isDigit) (by decide) rfl (o.dig rfl rfl rfl rfl) rfl (fun q3 => ?_) fun q3 => by rw [show p + 1 + 1 = p + 2 from rfl] at q3; rw [if_neg (by rw [q3]; decide)]
    rw [show p + 1 + 1 = p + 2 from rfl] at q3
    rw [if_pos q3, show p + 1 + 1 + 1 = p + 3 from rfl]
    have hp3 := ch_lt q3
    refine ends_mark (c := 111 * t.size + 329) (i := 11) (o.sz (by decide)) (o.cd rfl) (o.cd rfl) (by decide) (by decide) ?_
    exact ends_until (rp := 163) (B := 210) (c := 111 * t.size + 326) (o.sz (by decide)) (o.cd rfl) rfl hl1 (o.cd rfl) (o.cd rfl) (l184 o (by omega) (by decide) hl2)
  exact (ends_may (B := 225) (rp := 163) (sk := 19) (u := 183) (o.sz (by decide)) (o.cd rfl) (o.cd rfl) rfl (o.sz (by decide)) (o.cd rfl) (o.cd rfl) (o.cd rfl) body
    ((l184 o hp (by decide) (push_keeps hl hi)).mono (Nat.le_refl _) (by decide))).mono (by omega) (by decide)

/-- hour and minute -/
def h1of (t : Array Nat) (h0 : Nat) : Nat := h0 + 1 + min 1 (span t isDigit (h0 + 1))
def vClock (V : Nat → Option Nat) (h0 h1 : Nat) : Nat → Option Nat := setV (setV (setV (setV V 5 6 h0) 6 7 h1) 7 8 (h1 + 1)) 8 9 (h1 + 3)
def gM (t : Array Nat) (V : Nat → Option Nat) (h0 h1 : Nat) : Option Got :=
  if ch t isCo h1 then (if ch t isDigit (h1 + 1) then (if ch t isDigit (h1 + 2) then gS t (vClock V h0 h1) (h1 + 3) else none) else none) else none
def gH (t : Array Nat) (V : Nat → Option Nat) (h0 : Nat) : Option Got := if ch t isDigit h0 then gM t V h0 (h1of t h0) else none

theorem digit_co {c : Nat} (h : isDigit c = true) : isCo c = false := by
  unfold isDigit at h; unfold isCo
  simp only [Bool.and_eq_true, decide_eq_true_eq] at h
  simp only [beq_eq_false_iff_ne]; omega
theorem space_co {c : Nat} (h : isSpace c = true) : isCo c = false := by
  unfold isSpace at h; unfold isCo
  simp only [Bool.or_eq_true, Bool.and_eq_true, decide_eq_true_eq, beq_iff_eq] at h
  simp only [beq_eq_false_iff_ne]; omega

theorem l145 {i p0 h0 : Nat} (o : LO C t) (hp : p ≤ t.size) (hi : i < lp.size) (hl : lp.getD i { pc := 0, outer := none } = { pc := 104, count := 0, began := some p0, outer := none }) :
    Ends C (222 * t.size + 690) 255 145 p 14 (setV V 5 6 h0) 6 lp (some i) (gM t V h0 p) := by
  unfold gM
  refine (ends_mark (c := 222 * t.size + 685) (i := 7) (o.sz (by decide)) (o.cd rfl) (o.cd rfl) (by decide) (by decide) ?_).mono (by omega) (Nat.le_refl _)
  refine o.one (c := 222 * t.size + 684) (B := 255) (w := 2) (f := isCo) (by decide) rfl (acc_lit (o.cd rfl) (o.cd rfl)) rfl (fun q1 => ?_) fun q1 => by rw [if_neg (by rw [q1]; decide)]
  rw [if_pos q1]
  refine ends_mark (c := 222 * t.size + 683) (i := 8) (o.sz (by decide)) (o.cd rfl) (o.cd rfl) (by decide) (by decide) ?_
  refine o.one (c := 222 * t.size + 682) (B := 255) (w := 5) (f := isDigit) (by decide) rfl (o.dig rfl rfl rfl rfl) rfl (fun q2 => ?_) fun q2 => by rw [if_neg (by rw [q2]; decide)]
  rw [if_pos q2]
  refine o.one (c := 222 * t.size + 681) (B := 255) (w := 5) (f := isDigit) (by decide) rfl (o.dig rfl rfl rfl rfl) rfl (fun q3 => ?_) fun q3 => by rw [show p + 1 + 1 = p + 2 from rfl] at q3; rw [if_neg (by rw [q3]; decide)]
  rw [show p + 1 + 1 = p + 2 from rfl] at q3
  rw [if_pos q3, show p + 1 + 1 + 1 = p + 3 from rfl]
  have hp3 := ch_lt q3
  refine ends_mark (c := 222 * t.size + 680) (i := 9) (o.sz (by decide)) (o.cd rfl) (o.cd rfl) (by decide) (by decide) ?_
  exact l163 o (by omega) hi hl

theorem l128 {i p0 : Nat} (o : LO C t) (hp : p ≤ t.size) (hi : i < lp.size) (hl : lp.getD i { pc := 0, outer := none } = { pc := 104, count := 0, began := some p0, outer := none }) :
    Ends C (222 * t.size + 700) 270 128 p 14 V 5 lp (some i) (gH t V p) := by
  unfold gH
  refine (ends_mark (c := 222 * t.size + 696) (i := 6) (o.sz (by decide)) (o.cd rfl) (o.cd rfl) (by decide) (by decide) ?_).mono (by omega) (Nat.le_refl _)
  refine o.one (c := 222 * t.size + 695) (B := 270) (w := 5) (f := isDigit) (by decide) rfl (o.dig rfl rfl rfl rfl) rfl (fun q1 => ?_) fun q1 => by rw [if_neg (by rw [q1]; decide)]
  rw [if_pos q1]
  have hp1 : p + 1 ≤ t.size := ch_lt q1
  have hle := span_le t isDigit (p + 1)
  refine (ends_run (c0 := 222 * t.size + 690) (c1 := 2) (B := 255) o.toOn (o.sz (by decide)) (o.cd rfl) (o.cd (v := 9) rfl) (o.cd (v := 0) rfl) (o.cd (v := 1) rfl) (o.dig rfl rfl rfl rfl) hp1 ?_ ?_ ?_).mono ?_ (Nat.le_refl _)
  · intro _; exact l145 o (by omega) hi hl
  · intro _ k _ hk
    have hk0 : k = 0 := by omega
    subst hk0
    have hc : ch t isDigit (p + 1) = true := span_pos.mp (by omega)
    refine (ends_mark (c := 1) (B := 0) (i := 7) (o.sz (by decide)) (o.cd rfl) (o.cd rfl) (by decide) (by decide) ?_).mono (by decide) (by decide)
    exact o.one (c := 0) (B := 0) (w := 2) (f := isCo) (by decide) rfl (acc_lit (o.cd rfl) (o.cd rfl)) rfl (fun q1 => by rw [ch_not (fun c => digit_co) hc] at q1; cases q1) fun q1 => rfl
  · intro h; omega
  · omega

def gCB (t : Array Nat) (V : Nat → Option Nat) (p : Nat) : Option Got :=
  (if 1 ≤ span t isSpace p then gH t V (sp t p) else none).or (if ch t isCo p then gH t V (p + 1) else none)
def gC (t : Array Nat) (V : Nat → Option Nat) (p : Nat) : Option Got := (gCB t V p).or (gT1 t V 5 p)

theorem space_digit {c : Nat} (h : isSpace c = true) : isDigit c = false := (space_dull h).digit

theorem l104 (o : LO C t) (hp : p ≤ t.size) : Ends C (600 * t.size + 2000) 330 104 p 14 V 5 lp none (gC t V p) := by
  have hle := span_le t isSpace p
  have body : Ends C (448 * t.size + 1500) 300 108 p 14 V 5 (lpIn lp 104 p none) (some lp.size) (gCB t V p) := by
    have hl : (lpIn lp 104 p none).getD lp.size { pc := 0, outer := none } = { pc := 104, count := 0, began := some p, outer := none } := push_getD
    have hi : lp.size < (lpIn lp 104 p none).size := by unfold lpIn; simp
    have a1 : Ends C (226 * t.size + 710) 285 110 p 14 V 5 (lpIn lp 104 p none) (some lp.size) (if 1 ≤ span t isSpace p then gH t V (sp t p) else none) := by
      refine (ends_run (c0 := 222 * t.size + 701) (c1 := 2 + 1) (B := 270) o.toOn (o.sz (by decide)) (o.cd rfl) (o.cd (v := 9) rfl) (o.cd (v := 1) rfl) (o.cd (v := 4294967295) rfl) (o.spa rfl rfl rfl rfl) hp ?_ ?_ ?_).mono ?_ (Nat.le_refl _)
      · intro h; rw [o.most] at h ⊢; rw [if_pos h]
        exact ends_jump (k := 7) (o.sz (by decide)) (o.cd rfl) (o.cd rfl) (l128 o (sp_le hp) hi hl)
      · intro _ k _ hk
        rw [o.most] at hk
        refine ends_jump (k := 7) (c := 2) (o.sz (by decide)) (o.cd rfl) (o.cd rfl) ?_
        refine (ends_mark (c := 1) (B := 0) (i := 6) (o.sz (by decide)) (o.cd rfl) (o.cd rfl) (by decide) (by decide) ?_).mono (by decide) (by decide)
        exact o.one (c := 0) (B := 0) (w := 5) (f := isDigit) (by decide) rfl (o.dig rfl rfl rfl rfl) rfl (fun q1 => by rw [ch_not (fun c => space_digit) (span_ch k p hk)] at q1; cases q1) fun q1 => rfl
      · intro h; rw [o.most] at h; rw [if_neg (by omega)]
      · rw [o.most]; omega
    have a2 : Ends C (222 * t.size + 702) 285 123 p 14 V 5 (lpIn lp 104 p none) (some lp.size) (if ch t isCo p then gH t V (p + 1) else none) := by
      refine o.one (c := 222 * t.size + 701) (B := 285) (w := 2) (f := isCo) (by decide) rfl (acc_lit (o.cd rfl) (o.cd rfl)) rfl (fun q1 => ?_) fun q1 => by rw [if_neg (by rw [q1]; decide)]
      rw [if_pos q1]
      have := ch_lt q1
      exact ends_jump (k := 2) (o.sz (by decide)) (o.cd rfl) (o.cd rfl) ((l128 o (by omega) hi hl).mono (Nat.le_refl _) (by decide))
    exact (ends_two (d1 := 12) (d2 := 4) (o.sz (by decide)) (o.cd rfl) (o.cd rfl) (o.cd rfl) (o.cd rfl) a1 a2).mono (by omega) (Nat.le_refl _)
  exact (ends_may (B := 300) (rp := 104) (sk := 79) (u := 184) (o.sz (by decide)) (o.cd rfl) (o.cd rfl) rfl (o.sz (by decide)) (o.cd rfl) (o.cd rfl) (o.cd rfl) body
    ((l185 o hp (by decide)).mono (Nat.le_refl _) (by decide))).mono (by omega) (by decide)

/-! the year: where it gives figures back, nothing holds -/
theorem digit_alpha {c : Nat} (h : isDigit c = true) : isAlpha c = false := by
  unfold isDigit at h; unfold isAlpha
  simp only [Bool.and_eq_true, decide_eq_true_eq] at h
  simp only [Bool.or_eq_false_iff, Bool.and_eq_false_iff, decide_eq_false_iff_not]; omega
theorem digit_sign {c : Nat} (h : isDigit c = true) : isSign c = false := by
  cases q : isSign c with
  | false => rfl
  | true => rw [sign_digit q] at h; cases h

theorem t2_digit (h : ch t isDigit p = true) : t2 t p = none := by
  rw [t2_np (ch_not (fun c => digit_lp) h), eot_ch (fun c => digit_nl) h]; rfl
theorem sp_digit (h : ch t isDigit p = true) : sp t p = p := by
  unfold sp; rw [span_zero.mpr (ch_not (fun c => digit_space) h)]; rfl

theorem gC_back {y k : Nat} {V' : Nat → Option Nat} (h : gC t V (y + span t isDigit y) = none) (hk : k < span t isDigit y) : gC t V' (y + k) = none := by
  have hc := span_ch k y hk
  have h2 : t2 t (sp t (y + span t isDigit y)) = none := gT0_none (Option.or_eq_none_iff.mp h).2
  unfold gC
  have e1 : gCB t V' (y + k) = none := by
    unfold gCB
    rw [span_zero.mpr (ch_not (fun c => digit_space) hc), if_neg (by decide), ch_not (fun c => digit_co) hc]
    rfl
  rw [e1]
  show gT1 t V' 5 (y + k) = none
  unfold gT1 gT0
  rw [sp_digit hc, t2_digit hc]
  have hs : span t isSign (y + k) = 0 := span_zero.mpr (ch_not (fun c => digit_sign) hc)
  have hd : span t isDigit (y + k) = span t isDigit y - k := span_skip k y (by omega)
  have e2 : zl t (y + k) = none := by
    unfold zl
    rw [span_zero.mpr (ch_not (fun c => digit_alpha) hc)]
    split <;> rfl
  have e3 : (zd t (y + k)).bind (gZ t (setV V' 5 12 (y + k))) = none := by
    unfold zd
    rw [hs, show y + k + min 1 0 = y + k from rfl, hd]
    split
    · rename_i h4
      show gZ t _ _ = none
      unfold gZ
      by_cases h5 : span t isDigit y - k ≤ 4
      · rw [show y + k + min 4 (span t isDigit y - k) = y + span t isDigit y from by omega, h2]; rfl
      · rw [show y + k + min 4 (span t isDigit y - k) = y + (k + 4) from by omega]
        have hc4 := span_ch (k + 4) y (f := isDigit) (t := t) (by omega)
        rw [sp_digit hc4, t2_digit hc4]; rfl
    · rfl
  unfold gZB
  rw [e2, e3]
  rfl

def gY (t : Array Nat) (V : Nat → Option Nat) (y : Nat) : Option Got := if 1 ≤ span t isDigit y then gC t (setV (setV V 3 4 y) 4 5 (y + span t isDigit y)) (y + span t isDigit y) else none

theorem l90 (o : LO C t) (hp : p ≤ t.size) : Ends C (600 * t.size + 2005 + t.size * (600 * t.size + 2002)) 345 90 p 14 V 3 lp none (gY t V p) := by
  have hle := span_le t isDigit p
  refine (ends_mark (c := 600 * t.size + 2003 + t.size * (600 * t.size + 2002)) (i := 4) (o.sz (by decide)) (o.cd rfl) (o.cd rfl) (by decide) (by decide) ?_).mono (by omega) (Nat.le_refl _)
  refine (ends_run (c0 := 600 * t.size + 2001) (c1 := 600 * t.size + 2001) (B := 330) o.toOn (o.sz (by decide)) (o.cd rfl) (o.cd (v := 9) rfl) (o.cd (v := 1) rfl) (o.cd (v := 4294967295) rfl) (o.dig rfl rfl rfl rfl) hp ?_ ?_ ?_).mono ?_ (Nat.le_refl _)
  · intro h; rw [o.most] at h ⊢; unfold gY; rw [if_pos h]
    exact ends_mark (i := 5) (o.sz (by decide)) (o.cd rfl) (o.cd rfl) (by decide) (by decide) (l104 o (by omega))
  · intro hr k hk0 hk
    rw [o.most] at hk
    unfold gY at hr
    rw [if_pos (by omega)] at hr
    have h := l104 (V := setV (setV V 3 4 p) 4 5 (p + k)) (lp := lp) (p := p + k) o (by omega)
    rw [gC_back hr hk] at h
    exact ends_mark (i := 5) (o.sz (by decide)) (o.cd rfl) (o.cd rfl) (by decide) (by decide) h
  · intro h; rw [o.most] at h; unfold gY; rw [if_neg (by omega)]
  · rw [o.most]
    have : span t isDigit p * (600 * t.size + 2001 + 1) ≤ t.size * (600 * t.size + 2002) := Nat.mul_le_mul (by omega) (by omega)
    omega
end
end Mine
end

section
open PySem PySem.Sre
set_option Elab.async false
set_option linter.unusedVariables false
set_option maxRecDepth 100000
namespace Mine
section
variable {C : Cx} {t : Array Nat} {V : Nat → Option Nat} {lm : Int} {lp : Array Loop} {inn : Option Nat} {p : Nat}

def cY (n : Nat) : Nat := 600 * n + 2005 + n * (600 * n + 2002)

/-- blanks, or one of - and / -/
def gSp (t : Array Nat) (k : Nat → Option Got) (p : Nat) : Option Got :=
  (if 1 ≤ span t isSpace p then k (sp t p) else none).or (if ch t isSep p then k (p + 1) else none)

def gW2 (t : Array Nat) (V : Nat → Option Nat) (p : Nat) : Option Got := gSp t (gY t V) p

theorem l65 (o : LO C t) (hp : p ≤ t.size) : Ends C (2 * cY t.size + 4 * t.size + 20) 375 65 p 14 V 3 lp none (gW2 t V p) := by
  have hle := span_le t isSpace p
  have a1 : Ends C (cY t.size + 3 + t.size * 4) 360 67 p 14 V 3 lp none (if 1 ≤ span t isSpace p then gY t V (sp t p) else none) := by
    refine (ends_run (c0 := cY t.size + 1) (c1 := 2 + 1) (B := 345) o.toOn (o.sz (by decide)) (o.cd rfl) (o.cd (v := 9) rfl) (o.cd (v := 1) rfl) (o.cd (v := 4294967295) rfl) (o.spa rfl rfl rfl rfl) hp ?_ ?_ ?_).mono ?_ (Nat.le_refl _)
    · intro h; rw [o.most] at h ⊢; rw [if_pos h]
      exact ends_jump (k := 12) (o.sz (by decide)) (o.cd rfl) (o.cd rfl) (l90 o (sp_le hp))
    · intro _ k _ hk
      rw [o.most] at hk
      refine ends_jump (k := 12) (c := 2) (o.sz (by decide)) (o.cd rfl) (o.cd rfl) ?_
      refine (ends_mark (c := 1) (B := 0) (i := 4) (o.sz (by decide)) (o.cd rfl) (o.cd rfl) (by decide) (by decide) ?_).mono (by decide) (by decide)
      exact ends_rep1_few (f := isDigit) (n := 0) (o.sz (by decide)) (o.cd rfl) (o.cd (v := 1) rfl) (o.cd (v := 4294967295) rfl) (o.dig rfl rfl rfl rfl)
        (by rw [o.runs, span_zero.mpr (ch_not (fun c => space_digit) (span_ch k p hk))]; rfl) (by rw [o.lim]; omega) (by decide)
    · intro h; rw [o.most] at h; rw [if_neg (by omega)]
    · rw [o.most]; omega
  have a2 : Ends C (cY t.size + 2) 360 80 p 14 V 3 lp none (if ch t isSep p then gY t V (p + 1) else none) := by
    refine o.one (c := cY t.size + 1) (B := 360) (w := 7) (f := isSep) (by decide) rfl (acc_two (o.sz (by decide)) (o.cd rfl) (o.cd rfl) (o.cd rfl) (o.cd rfl) (o.cd rfl) (o.cd rfl)) rfl (fun q1 => ?_) fun q1 => by rw [if_neg (by rw [q1]; decide)]
    rw [if_pos q1]
    have : p + 1 ≤ t.size := ch_lt q1
    exact ends_jump (k := 2) (o.sz (by decide)) (o.cd rfl) (o.cd rfl) ((l90 o this).mono (Nat.le_refl _) (by decide))
  exact (ends_two (d1 := 12) (d2 := 9) (o.sz (by decide)) (o.cd rfl) (o.cd rfl) (o.cd rfl) (o.cd rfl) a1 a2).mono (by omega) (Nat.le_refl _)

theorem word_space {c : Nat} (h : isWord c = true) : isSpace c = false := by
  unfold isWord isDigit at h; unfold isSpace
  simp only [Bool.or_eq_true, Bool.and_eq_true, decide_eq_true_eq, beq_iff_eq] at h
  simp only [Bool.or_eq_false_iff, Bool.and_eq_false_iff, decide_eq_false_iff_not, beq_eq_false_iff_ne]; omega
theorem word_sep {c : Nat} (h : isWord c = true) : isSep c = false := by
  unfold isWord isDigit at h; unfold isSep
  simp only [Bool.or_eq_true, Bool.and_eq_true, decide_eq_true_eq, beq_iff_eq] at h
  simp only [Bool.or_eq_false_iff, beq_eq_false_iff_ne]; omega
theorem space_word {c : Nat} (h : isSpace c = true) : isWord c = false := by
  cases q : isWord c with
  | false => rfl
  | true => rw [word_space q] at h; cases h
theorem digit_word {c : Nat} (h : isDigit c = true) : isWord c = true := by unfold isWord; rw [h]; rfl

theorem l65s (o : LO C t) (hf : ch t isWord p = true) : Ends C 10 15 65 p 14 V 3 lp none none := by
  have hp := ch_lt hf
  have a1 : Ends C 1 0 67 p 14 V 3 lp none none := ends_rep1_few (f := isSpace) (n := 0) (o.sz (by decide)) (o.cd rfl) (o.cd (v := 1) rfl) (o.cd (v := 4294967295) rfl) (o.spa rfl rfl rfl rfl)
    (by rw [o.runs, span_zero.mpr (ch_not (fun c => word_space) hf)]; rfl) (by rw [o.lim]; omega) (by decide)
  have a2 : Ends C 1 0 80 p 14 V 3 lp none none := o.one (c := 0) (B := 0) (w := 7) (f := isSep) (by decide) rfl (acc_two (o.sz (by decide)) (o.cd rfl) (o.cd rfl) (o.cd rfl) (o.cd rfl) (o.cd rfl) (o.cd rfl)) rfl
    (fun q1 => by rw [ch_not (fun c => word_sep) hf] at q1; cases q1) fun q1 => rfl
  exact (ends_two (d1 := 12) (d2 := 9) (o.sz (by decide)) (o.cd rfl) (o.cd rfl) (o.cd rfl) (o.cd rfl) a1 a2).mono (by decide) (by decide)

/-- the month, a word -/
def gW (t : Array Nat) (V : Nat → Option Nat) (w : Nat) : Option Got := if 1 ≤ span t isWord w then gW2 t (setV (setV V 1 2 w) 2 3 (w + span t isWord w)) (w + span t isWord w) else none

def cW (n : Nat) : Nat := 2 * cY n + 20 * n + 40

theorem l51 (o : LO C t) (hp : p ≤ t.size) : Ends C (cW t.size) 390 51 p 14 V 1 lp none (gW t V p) := by
  have hle := span_le t isWord p
  refine (ends_mark (c := 2 * cY t.size + 16 * t.size + 30) (i := 2) (o.sz (by decide)) (o.cd rfl) (o.cd rfl) (by decide) (by decide) ?_).mono (by unfold cW; omega) (Nat.le_refl _)
  refine (ends_run (c0 := 2 * cY t.size + 4 * t.size + 21) (c1 := 11) (B := 375) o.toOn (o.sz (by decide)) (o.cd rfl) (o.cd (v := 9) rfl) (o.cd (v := 1) rfl) (o.cd (v := 4294967295) rfl) (o.wor rfl rfl rfl rfl) hp ?_ ?_ ?_).mono ?_ (Nat.le_refl _)
  · intro h; rw [o.most] at h ⊢; unfold gW; rw [if_pos h]
    exact ends_mark (i := 3) (o.sz (by decide)) (o.cd rfl) (o.cd rfl) (by decide) (by decide) (l65 o (by omega))
  · intro _ k _ hk
    rw [o.most] at hk
    exact ends_mark (i := 3) (o.sz (by decide)) (o.cd rfl) (o.cd rfl) (by decide) (by decide) ((l65s o (span_ch k p hk)).mono (Nat.le_refl _) (by decide))
  · intro h; rw [o.most] at h; unfold gW; rw [if_neg (by omega)]
  · rw [o.most]; omega

def gD2 (t : Array Nat) (V : Nat → Option Nat) (p : Nat) : Option Got := gSp t (gW t V) p

theorem l26 (o : LO C t) (hp : p ≤ t.size) : Ends C (2 * cW t.size + 4 * t.size + 20) 420 26 p 14 V 1 lp none (gD2 t V p) := by
  have hle := span_le t isSpace p
  have a1 : Ends C (cW t.size + 3 + t.size * 4) 405 28 p 14 V 1 lp none (if 1 ≤ span t isSpace p then gW t V (sp t p) else none) := by
    refine (ends_run (c0 := cW t.size + 1) (c1 := 2 + 1) (B := 390) o.toOn (o.sz (by decide)) (o.cd rfl) (o.cd (v := 9) rfl) (o.cd (v := 1) rfl) (o.cd (v := 4294967295) rfl) (o.spa rfl rfl rfl rfl) hp ?_ ?_ ?_).mono ?_ (Nat.le_refl _)
    · intro h; rw [o.most] at h ⊢; rw [if_pos h]
      exact ends_jump (k := 12) (o.sz (by decide)) (o.cd rfl) (o.cd rfl) (l51 o (sp_le hp))
    · intro _ k _ hk
      rw [o.most] at hk
      refine ends_jump (k := 12) (c := 2) (o.sz (by decide)) (o.cd rfl) (o.cd rfl) ?_
      refine (ends_mark (c := 1) (B := 0) (i := 2) (o.sz (by decide)) (o.cd rfl) (o.cd rfl) (by decide) (by decide) ?_).mono (by decide) (by decide)
      exact ends_rep1_few (f := isWord) (n := 0) (o.sz (by decide)) (o.cd rfl) (o.cd (v := 1) rfl) (o.cd (v := 4294967295) rfl) (o.wor rfl rfl rfl rfl)
        (by rw [o.runs, span_zero.mpr (ch_not (fun c => space_word) (span_ch k p hk))]; rfl) (by rw [o.lim]; omega) (by decide)
    · intro h; rw [o.most] at h; rw [if_neg (by omega)]
    · rw [o.most]; omega
  have a2 : Ends C (cW t.size + 2) 405 41 p 14 V 1 lp none (if ch t isSep p then gW t V (p + 1) else none) := by
    refine o.one (c := cW t.size + 1) (B := 405) (w := 7) (f := isSep) (by decide) rfl (acc_two (o.sz (by decide)) (o.cd rfl) (o.cd rfl) (o.cd rfl) (o.cd rfl) (o.cd rfl) (o.cd rfl)) rfl (fun q1 => ?_) fun q1 => by rw [if_neg (by rw [q1]; decide)]
    rw [if_pos q1]
    have : p + 1 ≤ t.size := ch_lt q1
    exact ends_jump (k := 2) (o.sz (by decide)) (o.cd rfl) (o.cd rfl) ((l51 o this).mono (Nat.le_refl _) (by decide))
  exact (ends_two (d1 := 12) (d2 := 9) (o.sz (by decide)) (o.cd rfl) (o.cd rfl) (o.cd rfl) (o.cd rfl) a1 a2).mono (by omega) (Nat.le_refl _)

theorem l26s (o : LO C t) (hf : ch t isDigit p = true) : Ends C 10 15 26 p 14 V 1 lp none none := by
  have hp := ch_lt hf
  have hw : ch t isWord p = true := by rw [ch_true] at hf ⊢; exact ⟨hf.1, digit_word hf.2⟩
  have a1 : Ends C 1 0 28 p 14 V 1 lp none none := ends_rep1_few (f := isSpace) (n := 0) (o.sz (by decide)) (o.cd rfl) (o.cd (v := 1) rfl) (o.cd (v := 4294967295) rfl) (o.spa rfl rfl rfl rfl)
    (by rw [o.runs, span_zero.mpr (ch_not (fun c => word_space) hw)]; rfl) (by rw [o.lim]; omega) (by decide)
  have a2 : Ends C 1 0 41 p 14 V 1 lp none none := o.one (c := 0) (B := 0) (w := 7) (f := isSep) (by decide) rfl (acc_two (o.sz (by decide)) (o.cd rfl) (o.cd rfl) (o.cd rfl) (o.cd rfl) (o.cd rfl) (o.cd rfl)) rfl
    (fun q1 => by rw [ch_not (fun c => word_sep) hw] at q1; cases q1) fun q1 => rfl
  exact (ends_two (d1 := 12) (d2 := 9) (o.sz (by decide)) (o.cd rfl) (o.cd rfl) (o.cd rfl) (o.cd rfl) a1 a2).mono (by decide) (by decide)

/-- the whole pattern from place 0 -/
def dEnd (t : Array Nat) : Nat := 1 + min 1 (span t isDigit 1)
def gD (t : Array Nat) : Option Got :=
  if ch t isDigit 0 then gD2 t (setV (setV (fun _ => none) (-1) 0 0) 0 1 (dEnd t)) (dEnd t) else none

def cD (n : Nat) : Nat := 2 * cW n + 4 * n + 60

theorem isAt0 {m : M} (hp : m.pos = p) : m.isAt 0 = .ok (p == 0) := by
  unfold M.isAt; simp only [hp]

theorem l5 (o : LO C t) : Ends C (cD t.size) 435 5 0 14 (fun _ => none) (-1) lp none (gD t) := by
  refine (ends_at (k := 0) (c := 2 * cW t.size + 4 * t.size + 50) (o.sz (by decide)) (o.cd rfl) (o.cd rfl) (fun m a b c => by rw [isAt0 a]; rfl) ?_).mono (by unfold cD; omega) (Nat.le_refl _)
  refine (ends_mark (c := 2 * cW t.size + 4 * t.size + 49) (i := 0) (o.sz (by decide)) (o.cd rfl) (o.cd rfl) (by decide) (by decide) ?_)
  refine (o.one (c := 2 * cW t.size + 4 * t.size + 48) (B := 435) (w := 5) (f := isDigit) (by decide) rfl (o.dig rfl rfl rfl rfl) rfl (fun q1 => ?_) fun q1 => by unfold gD; rw [if_neg (by rw [q1]; decide)])
  have hp1 : 0 + 1 ≤ t.size := ch_lt q1
  have hle := span_le t isDigit (0 + 1)
  unfold gD
  rw [if_pos q1]
  refine (ends_run (c0 := 2 * cW t.size + 4 * t.size + 21) (c1 := 11) (B := 420) o.toOn (o.sz (by decide)) (o.cd rfl) (o.cd (v := 9) rfl) (o.cd (v := 0) rfl) (o.cd (v := 1) rfl) (o.dig rfl rfl rfl rfl) hp1 ?_ ?_ ?_).mono ?_ (Nat.le_refl _)
  · intro _
    exact ends_mark (i := 1) (o.sz (by decide)) (o.cd rfl) (o.cd rfl) (by decide) (by decide) (l26 o (by omega))
  · intro _ k _ hk
    have hk0 : k = 0 := by omega
    subst hk0
    have h1 : 0 < span t isDigit (0 + 1) := by omega
    exact ends_mark (i := 1) (o.sz (by decide)) (o.cd rfl) (o.cd rfl) (by decide) (by decide) ((l26s (p := 0 + 1) o (span_pos.mp h1)).mono (Nat.le_refl _) (by decide))
  · intro h; omega
  · omega

theorem l5s (o : LO C t) (h : p ≠ 0) : Ends C 1 0 5 p 14 V lm lp inn none :=
  ends_at_not (k := 0) (o.sz (by decide)) (o.cd rfl) (o.cd rfl) (fun m a b c => by rw [isAt0 a]; simp [h])

theorem looseHeader : header looseCode = (5, 5) := rfl

theorem vis_none {n : Nat} : Vis (Array.replicate n none) n (-1) (fun _ => none) := ⟨by simp, fun i hi => by omega⟩

/-- the search by the loose pattern ends as gD says -/
theorem loose_found (ht : t.size < 65536) (h5 : (gD t).isSome = true → 5 ≤ t.size) : Found (3 * cD t.size + 3 * t.size + 100) (gD t) 14 (forSearch looseCode t 7 0 t.size false) := by
  by_cases hs : t.size < 5
  · have : gD t = none := by
      cases q : gD t with
      | none => rfl
      | some g => have := h5 (by rw [q]; rfl); omega
    rw [this]
    exact (search_short looseHeader hs).mono (by omega)
  · rw [search_eq (sn := {}) looseHeader (by decide) rfl hs]
    have o : ∀ s, LO (Cx.at ⟨looseCode, t, t.size, 0, if 5 > 1 then t.size - (5 - 1) else t.size⟩ s) t := fun s => ⟨⟨rfl, rfl, ht⟩, rfl⟩
    cases q : gD t with
    | some g =>
      have h := l5 (lp := #[]) (o 0)
      rw [q] at h
      exact (search_hit (hd := 0) (sn := ({} : Seen).add 14) rfl (by decide) vis_none h).mono (by omega)
    | none =>
      have h := l5 (lp := #[]) (o 0)
      rw [q] at h
      -- the first attempt is long, the others are short: one bound for all would be too large; we take it in two
      obtain ⟨n, hn, a1, a2, a3, a4, a5, a6, a7, a8, e2, hv2⟩ := att_run (hd := 0) (first := true) (sn := ({} : Seen).add 14) (mk := Array.replicate 14 none) (vis_none (n := 14)) (by decide) h
      have e3 : stepN (n + 1) (Att ⟨looseCode, t, t.size, 0, if 5 > 1 then t.size - (5 - 1) else t.size⟩ 5 0 0 true (Array.replicate 14 none) (({} : Seen).add 14)) =
          M.resume (St (Cx.at ⟨looseCode, t, t.size, 0, if 5 > 1 then t.size - (5 - 1) else t.size⟩ 0) 5 0 a3 true a5 a6 a7 #[] none [] 0 none a8) (startFrame 5 0 true) false := by
        rw [stepN_add, e2, stepN_one]; rfl
      by_cases hl : 0 < t.size - 4
      · have e4 : M.resume (St (Cx.at ⟨looseCode, t, t.size, 0, if 5 > 1 then t.size - (5 - 1) else t.size⟩ 0) 5 0 a3 true a5 a6 a7 #[] none [] 0 none a8) (startFrame 5 0 true) false =
            Att ⟨looseCode, t, t.size, 0, if 5 > 1 then t.size - (5 - 1) else t.size⟩ 5 1 a3 false a5 a8 := by
          unfold M.resume
          simp only [startFrame, Bool.false_eq_true, if_false]
          show (if 0 < t.size - 4 then _ else _) = _
          rw [if_pos hl]
          exact attemptFrom_eq (C := Cx.at ⟨looseCode, t, t.size, 0, if 5 > 1 then t.size - (5 - 1) else t.size⟩ 0) rfl
        have h2 := search_none (C := ⟨looseCode, t, t.size, 0, if 5 > 1 then t.size - (5 - 1) else t.size⟩) (sz := 14) (body := 5) (cs := 1) (B := 0) rfl (by decide) (t.size - 4) 1 (by show 1 + (t.size - 4) = t.size - 4 + 1; omega)
          (fun s hs1 _ => l5s (o s) (by omega)) a3 false a5 a8 hl hv2
        exact (Found.steps (e3.trans e4) h2).mono (by omega)
      · have e4 : M.resume (St (Cx.at ⟨looseCode, t, t.size, 0, if 5 > 1 then t.size - (5 - 1) else t.size⟩ 0) 5 0 a3 true a5 a6 a7 #[] none [] 0 none a8) (startFrame 5 0 true) false =
            St (Cx.at ⟨looseCode, t, t.size, 0, if 5 > 1 then t.size - (5 - 1) else t.size⟩ 0) 5 0 a3 true a5 a6 a7 #[] none [] 0 (some false) a8 := by
          unfold M.resume
          simp only [startFrame, Bool.false_eq_true, if_false]
          show (if 0 < t.size - 4 then _ else _) = _
          rw [if_neg hl]; rfl
        exact (Found.steps (e3.trans e4) found_no).mono (by omega)
end
end Mine
end

section
open PySem PySem.Sre
set_option Elab.async false
set_option linter.unusedVariables false
set_option maxRecDepth 100000
namespace Mine

/-- a pattern that opens with ^ : what holds at place 0 is all -/
theorem at0_found {code t : Array Nat} {groups least c B sz : Nat} {r : Option Got} (hh : header code = (least, 5)) (h2 : code.getD 2 0 = 0) (h5 : code.getD 5 0 = 6) (h6 : code.getD 6 0 = 0) (hz : 5 < code.size) (hsz : 2 * groups = sz)
    (ht : t.size < 65536) (hB : 1 + B ≤ top) (hr : r.isSome = true → least ≤ t.size)
    (h : ∀ C : Cx, C.code = code → C.text = t → C.lim = t.size → Ends C c B 5 0 sz (fun _ => none) (-1) #[] none r) :
    Found (c + 3 * t.size + 20) r sz (forSearch code t groups 0 t.size false) := by
  by_cases hs : t.size < least
  · have : r = none := by
      cases q : r with
      | none => rfl
      | some g => have := hr (by rw [q]; rfl); omega
    rw [this]
    exact (search_short hh hs).mono (by omega)
  · rw [search_eq (sn := {}) hh (by decide) h2 hs]
    have hf : ((match ops[code.getD 0 0]? with | some .INFO => true | _ => false) && code.getD 2 0 == 4) = false := by rw [h2]; simp
    have hv0 : Vis (Array.replicate (2 * groups) none) sz (-1) (fun _ => none) := by rw [hsz]; exact vis_none
    generalize hls : (if least > 1 then t.size - (least - 1) else t.size) = ls
    have hls2 : ls ≤ t.size := by rw [← hls]; split <;> omega
    have h0 := h (Cx.at ⟨code, t, t.size, 0, ls⟩ 0) rfl rfl rfl
    cases q : r with
    | some g =>
      rw [q] at h0
      exact (search_hit (hd := 0) (sn := ({} : Seen).add 14) rfl hB hv0 h0).mono (by omega)
    | none =>
      rw [q] at h0
      obtain ⟨n, hn, a1, a2, a3, a4, a5, a6, a7, a8, e2, hv2⟩ := att_run (hd := 0) (first := true) (sn := ({} : Seen).add 14) hv0 hB h0
      have e3 : stepN (n + 1) (Att ⟨code, t, t.size, 0, ls⟩ 5 0 0 true (Array.replicate (2 * groups) none) (({} : Seen).add 14)) =
          M.resume (St (Cx.at ⟨code, t, t.size, 0, ls⟩ 0) 5 0 a3 true a5 a6 a7 #[] none [] 0 none a8) (startFrame 5 0 true) false := by
        rw [stepN_add, e2, stepN_one]; rfl
      by_cases hl : 0 < ls
      · have e4 : M.resume (St (Cx.at ⟨code, t, t.size, 0, ls⟩ 0) 5 0 a3 true a5 a6 a7 #[] none [] 0 none a8) (startFrame 5 0 true) false = Att ⟨code, t, t.size, 0, ls⟩ 5 1 a3 false a5 a8 := by
          unfold M.resume
          simp only [startFrame, Bool.false_eq_true, if_false]
          show (if 0 < ls then _ else _) = _
          rw [if_pos hl]
          exact attemptFrom_eq (C := Cx.at ⟨code, t, t.size, 0, ls⟩ 0) hf
        have h2 := search_none (C := ⟨code, t, t.size, 0, ls⟩) (sz := sz) (body := 5) (cs := 1) (B := 0) hf (by decide) ls 1 (by show 1 + ls = ls + 1; omega)
          (fun s hs1 _ => ends_at_not (k := 0) hz h5 h6 (fun m a b c => by rw [isAt0 a]; congr 1; simp; omega)) a3 false a5 a8 hl hv2
        exact (Found.steps (e3.trans e4) h2).mono (by omega)
      · have e4 : M.resume (St (Cx.at ⟨code, t, t.size, 0, ls⟩ 0) 5 0 a3 true a5 a6 a7 #[] none [] 0 none a8) (startFrame 5 0 true) false =
            St (Cx.at ⟨code, t, t.size, 0, ls⟩ 0) 5 0 a3 true a5 a6 a7 #[] none [] 0 (some false) a8 := by
          unfold M.resume
          simp only [startFrame, Bool.false_eq_true, if_false]
          show (if 0 < ls then _ else _) = _
          rw [if_neg hl]; rfl
        exact (Found.steps (e3.trans e4) found_no).mono (by omega)

section
variable {C : Cx} {t : Array Nat} {V : Nat → Option Nat} {lm : Int} {lp : Array Loop} {inn : Option Nat} {p : Nat}

theorem On.one (o : On C t) {pc c B w sz : Nat} {r : Option Got} {f : Nat → Bool} (hpc : pc < C.code.size) (h : oneOp (C.code.getD pc 0) = true) (ha : Acc C pc f) (hw : itemWidth C.code pc = w)
    (hy : ch t f p = true → Ends C c B (pc + w) (p + 1) sz V lm lp inn r) (hn : ch t f p = false → r = none) : Ends C (c + 1) B pc p sz V lm lp inn r := by
  cases q : ch t f p with
  | true => exact ends_one hpc h ha hw (by rw [o.at?]; exact q) (hy q)
  | false => rw [hn q]; exact (ends_one_not hpc h ha (by rw [o.at?]; exact q)).mono (by omega) (by omega)

/-! the weekday -/
def weekCode : Array Nat := #[14, 4, 0, 3, 4294967295, 6, 0, 7, 9, 32, 115, 32, 117, 32, 110, 15, 56, 9, 32, 109, 32, 111, 32, 110, 15, 47, 9, 32, 116, 32, 117, 32, 101, 15, 38, 9, 32, 119, 32, 101, 32, 100, 15, 29, 9, 32, 116, 32, 104, 32, 117, 15, 20, 9, 32, 102, 32, 114, 32, 105, 15, 11, 9, 32, 115, 32, 97, 32, 116, 15, 2, 0, 24, 10, 0, 4294967295, 31, 5, 22, 97, 122, 0, 1, 24, 6, 0, 1, 16, 44, 1, 24, 9, 0, 4294967295, 13, 4, 8, 2, 0, 1, 1]

structure WO (C : Cx) (t : Array Nat) : Prop extends On C t where
  code : C.code = weekCode
theorem WO.cd (o : WO C t) {i v : Nat} (h : weekCode.getD i 0 = v) : C.code.getD i 0 = v := by rw [o.code]; exact h
theorem WO.sz (o : WO C t) {i : Nat} (h : i < 101) : i < C.code.size := by rw [o.code]; exact h

def isComma (c : Nat) : Bool := c == 44
def lowIs (k c : Nat) : Bool := lowerAscii c == k
def wEnd (t : Array Nat) : Nat := sp t (3 + span t isAlpha 3 + min 1 (span t isComma (3 + span t isAlpha 3)))

theorem low_alpha (c : Nat) : (decide (97 ≤ lowerAscii c) && decide (lowerAscii c ≤ 122)) = isAlpha c := by
  unfold lowerAscii isAlpha
  by_cases h : 65 ≤ c ∧ c ≤ 90
  · rw [if_pos (by simp [h])]
    have h1 : decide (97 ≤ c + 32) = true := decide_eq_true (by omega)
    have h2 : decide (c + 32 ≤ 122) = true := decide_eq_true (by omega)
    have h3 : decide (65 ≤ c) = true := decide_eq_true h.1
    have h4 : decide (c ≤ 90) = true := decide_eq_true h.2
    rw [h1, h2, h3, h4]; rfl
  · rw [if_neg (by simpa using h)]
    have : (decide (65 ≤ c) && decide (c ≤ 90)) = false := by
      cases q : (decide (65 ≤ c) && decide (c ≤ 90)) with
      | false => rfl
      | true => simp at q; omega
    rw [this]; rfl

theorem WO.most (o : WO C t) (f : Nat → Bool) (p : Nat) : min 4294967295 (span t f p) = span t f p := by
  have := span_le t f p; have := o.small; omega

theorem w90 (o : WO C t) (hp : p ≤ t.size) : Ends C (t.size + 5) 1 90 p 0 V lm lp none (some ⟨sp t p, lm, V⟩) := by
  refine (ends_run (c0 := 1) (c1 := 0) (B := 0) o.toOn (o.sz (by decide)) (o.cd rfl) (o.cd (v := 9) rfl) (o.cd (v := 0) rfl) (o.cd (v := 4294967295) rfl) (acc_cat (k := 2) (pc := 94) (f := isSpace) (o.sz (by decide)) (o.cd rfl) (o.cd rfl) (o.cd rfl) (o.cd rfl) cat_space) hp ?_ ?_ ?_).mono ?_ (by decide)
  · intro _; rw [o.most]; exact ends_success (o.sz (by decide)) (o.cd rfl)
  · intro h; cases h
  · intro h; omega
  · rw [o.most]; have := span_le t isSpace p; omega
theorem w83 (o : WO C t) (hp : p ≤ t.size) : Ends C (t.size + 10) 2 83 p 0 V lm lp none (some ⟨sp t (p + min 1 (span t isComma p)), lm, V⟩) := by
  have hle := span_le t isComma p
  refine (ends_run (f := isComma) (c0 := t.size + 5) (c1 := 0) (B := 1) o.toOn (o.sz (by decide)) (o.cd rfl) (o.cd (v := 6) rfl) (o.cd (v := 0) rfl) (o.cd (v := 1) rfl) (acc_lit (o.cd rfl) (o.cd rfl)) hp ?_ ?_ ?_).mono ?_ (by decide)
  · intro _; exact w90 o (by omega)
  · intro h; cases h
  · intro h; omega
  · omega
theorem w72 (o : WO C t) (hp : 3 ≤ t.size) : Ends C (2 * t.size + 15) 3 72 3 0 V lm lp none (some ⟨wEnd t, lm, V⟩) := by
  have hle := span_le t isAlpha 3
  have ha : Acc C 76 isAlpha := by
    have := acc_range_ign (C := C) (pc := 76) (a := 97) (b := 122) (o.sz (by decide)) (o.cd rfl) (o.cd rfl) (o.cd rfl) (o.cd rfl) (o.cd rfl)
    rw [funext low_alpha] at this
    exact this
  refine (ends_run (f := isAlpha) (c0 := t.size + 10) (c1 := 0) (B := 2) o.toOn (o.sz (by decide)) (o.cd rfl) (o.cd (v := 10) rfl) (o.cd (v := 0) rfl) (o.cd (v := 4294967295) rfl) ha hp ?_ ?_ ?_).mono ?_ (by decide)
  · intro _; rw [o.most]; exact w83 o (by omega)
  · intro h; cases h
  · intro h; omega
  · rw [o.most]; omega

def wis (t : Array Nat) (a b c : Nat) : Bool := ch t (lowIs a) 0 && (ch t (lowIs b) 1 && ch t (lowIs c) 2)
/-- a weekday's name opens the text -/
def wday (t : Array Nat) : Bool := wis t 115 117 110 || (wis t 109 111 110 || (wis t 116 117 101 || (wis t 119 101 100 || (wis t 116 104 117 || (wis t 102 114 105 || wis t 115 97 116)))))

theorem w_alt {pc a b c d : Nat} (o : WO C t) (hpc : pc + 7 < 101) (h0 : weekCode.getD pc 0 = 32) (h1 : weekCode.getD (pc + 1) 0 = a) (h2 : weekCode.getD (pc + 2) 0 = 32) (h3 : weekCode.getD (pc + 3) 0 = b)
    (h4 : weekCode.getD (pc + 4) 0 = 32) (h5 : weekCode.getD (pc + 5) 0 = c) (h6 : weekCode.getD (pc + 6) 0 = 15) (h7 : weekCode.getD (pc + 7) 0 = d) (hd : pc + 7 + d = 72) :
    Ends C (2 * t.size + 19) 3 pc 0 0 V lm lp none (if wis t a b c then some ⟨wEnd t, lm, V⟩ else none) := by
  have op : ∀ q, C.code.getD q 0 = 32 → oneOp (C.code.getD q 0) = true := fun q e => by rw [e]; rfl
  have wd : ∀ q, C.code.getD q 0 = 32 → itemWidth C.code q = 2 := fun q e => by unfold itemWidth; rw [e]; rfl
  unfold wis
  refine o.toOn.one (c := 2 * t.size + 18) (B := 3) (w := 2) (f := lowIs a) (o.sz (by omega)) (op _ (o.cd h0)) (acc_lit_ign (o.cd h0) (o.cd h1)) (wd _ (o.cd h0)) (fun q1 => ?_) fun q1 => by rw [q1]; rfl
  rw [q1, Bool.true_and]
  refine o.toOn.one (c := 2 * t.size + 17) (B := 3) (w := 2) (f := lowIs b) (o.sz (by omega)) (op _ (o.cd h2)) (acc_lit_ign (o.cd h2) (o.cd h3)) (wd _ (o.cd h2)) (fun q2 => ?_) fun q2 => by rw [q2]; rfl
  rw [q2, Bool.true_and]
  refine o.toOn.one (c := 2 * t.size + 16) (B := 3) (w := 2) (f := lowIs c) (o.sz (by omega)) (op _ (o.cd h4)) (acc_lit_ign (o.cd h4) (o.cd h5)) (wd _ (o.cd h4)) (fun q3 => ?_) fun q3 => by rw [q3]; rfl
  rw [q3, if_pos rfl]
  have h72 := w72 (V := V) (lm := lm) (lp := lp) o (ch_lt q3)
  refine ends_jump (k := d) (o.sz (by omega)) (o.cd h6) (o.cd h7) ?_
  rw [show pc + 2 + 2 + 2 + 1 + d = 72 from by omega]
  exact h72

theorem if_or {a b : Bool} {x : Got} : ((if a then some x else none).or (if b then some x else none) : Option Got) = if (a || b) then some x else none := by cases a <;> cases b <;> rfl

theorem alts_step {c1 c2 B alt d sz : Nat} {r1 r2 : Option Got} (hd : C.code.getD alt 0 = d + 1) (h1 : Ends C c1 B (alt + 1) p sz V lm lp inn r1) (h2 : Alts C c2 (B + 1 + sz) (alt + (d + 1)) p sz V lm lp inn r2) :
    Alts C (c1 + 1 + c2) (B + 1 + sz) alt p sz V lm lp inn (r1.or r2) := by
  cases r1 with
  | none => exact alts_next hd h1 h2 (Nat.le_refl _)
  | some g =>
    intro pc ob hd' li mk fr wt sn k hv hk hw
    exact (alts_win hd h1 pc ob hd' li mk fr wt sn k hv hk hw).mono (by omega)
theorem alts_none {alt B : Nat} {sz : Nat} (h0 : C.code.getD alt 0 = 0) : Alts C 0 B alt p sz V lm lp inn none := by
  intro pc ob hd' li mk fr wt sn k hv hk hw
  exact alts_nil h0 pc ob hd' li mk fr wt sn k hv hk (by omega)

def gK (t : Array Nat) : Option Got := if wday t then some ⟨wEnd t, -1, fun _ => none⟩ else none

theorem w5 (o : WO C t) : Ends C (14 * t.size + 200) 4 5 0 0 (fun _ => none) (-1) lp none (gK t) := by
  refine (ends_at (k := 0) (c := 14 * t.size + 150) (o.sz (by decide)) (o.cd rfl) (o.cd rfl) (fun m a b c => by rw [isAt0 a]; rfl) ?_).mono (by omega) (Nat.le_refl _)
  have b1 := w_alt (V := fun _ => none) (lm := -1) (lp := lp) (pc := 9) (a := 115) (b := 117) (c := 110) o (by decide) rfl rfl rfl rfl rfl rfl rfl rfl rfl
  have b2 := w_alt (V := fun _ => none) (lm := -1) (lp := lp) (pc := 18) (a := 109) (b := 111) (c := 110) o (by decide) rfl rfl rfl rfl rfl rfl rfl rfl rfl
  have b3 := w_alt (V := fun _ => none) (lm := -1) (lp := lp) (pc := 27) (a := 116) (b := 117) (c := 101) o (by decide) rfl rfl rfl rfl rfl rfl rfl rfl rfl
  have b4 := w_alt (V := fun _ => none) (lm := -1) (lp := lp) (pc := 36) (a := 119) (b := 101) (c := 100) o (by decide) rfl rfl rfl rfl rfl rfl rfl rfl rfl
  have b5 := w_alt (V := fun _ => none) (lm := -1) (lp := lp) (pc := 45) (a := 116) (b := 104) (c := 117) o (by decide) rfl rfl rfl rfl rfl rfl rfl rfl rfl
  have b6 := w_alt (V := fun _ => none) (lm := -1) (lp := lp) (pc := 54) (a := 102) (b := 114) (c := 105) o (by decide) rfl rfl rfl rfl rfl rfl rfl rfl rfl
  have b7 := w_alt (V := fun _ => none) (lm := -1) (lp := lp) (pc := 63) (a := 115) (b := 97) (c := 116) o (by decide) rfl rfl rfl rfl rfl rfl rfl rfl rfl
  have a8 : Alts C 0 4 71 0 0 (fun _ => none) (-1) lp none none := alts_none (o.cd rfl)
  have a7 := alts_step (alt := 62) (d := 8) (o.cd rfl) b7 a8
  have a6 := alts_step (alt := 53) (d := 8) (o.cd rfl) b6 a7
  have a5 := alts_step (alt := 44) (d := 8) (o.cd rfl) b5 a6
  have a4 := alts_step (alt := 35) (d := 8) (o.cd rfl) b4 a5
  have a3 := alts_step (alt := 26) (d := 8) (o.cd rfl) b3 a4
  have a2 := alts_step (alt := 17) (d := 8) (o.cd rfl) b2 a3
  have a1 := alts_step (alt := 8) (d := 8) (o.cd rfl) b1 a2
  have := ends_branch (pc := 7) (o.sz (by decide)) (o.cd rfl) a1
  simp only [Option.or_none, if_or] at this
  unfold gK wday
  exact this.mono (by omega) (by decide)

theorem week_found (ht : t.size < 65536) : Found (17 * t.size + 220) (gK t) 0 (forSearch weekCode t 0 0 t.size false) := by
  refine (at0_found (least := 3) (c := 14 * t.size + 200) (B := 4) (r := gK t) rfl rfl rfl rfl (by decide) rfl ht (by decide) ?_ ?_).mono (by omega)
  · intro h
    have hw : wday t = true := by unfold gK at h; cases q : wday t with
      | true => rfl
      | false => rw [q] at h; cases h
    unfold wday wis at hw
    simp only [Bool.or_eq_true, Bool.and_eq_true] at hw
    rcases hw with h | h | h | h | h | h | h <;> exact ch_lt h.2.2
  · intro C h1 h2 h3
    exact w5 ⟨⟨h2, h3, ht⟩, h1⟩
end
end Mine
end

section
open PySem PySem.Sre
set_option Elab.async false
set_option linter.unusedVariables false
set_option maxRecDepth 100000
namespace Mine
section
variable {C : Cx} {t : Array Nat} {V : Nat → Option Nat} {lm : Int} {lp : Array Loop} {inn : Option Nat} {p pc : Nat}

theorem acc_range1 {a b : Nat} (hs : 8 < C.code.size) (ho : C.code.getD pc 0 = 13) (h2 : C.code.getD (pc + 2) 0 = 22) (h3 : C.code.getD (pc + 3) 0 = a) (h4 : C.code.getD (pc + 4) 0 = b) (h5 : C.code.getD (pc + 5) 0 = 0) :
    Acc C pc (fun c => decide (a ≤ c) && decide (c ≤ b)) := by
  intro c sn
  obtain ⟨n, hn⟩ : ∃ n, C.code.size = n + 3 := ⟨C.code.size - 3, by omega⟩
  unfold accepts
  have e13 : (ops[(13:Nat)]? : Option Op) = some .IN := rfl
  simp only [ho, e13, hn]
  rw [inSet_range h2, h3, h4]
  by_cases q : (decide (a ≤ c) && decide (c ≤ b)) = true
  · rw [if_pos q]; simp only [q]; exact ⟨_, rfl⟩
  · rw [if_neg q, inSet_fail h5]
    simp only [Bool.not_eq_true] at q
    simp only [q]; exact ⟨_, rfl⟩

/-! the strict pattern: where no GM stands at places 26, 27 it fails -/
def strictCode : Array Nat := #[14, 4, 0, 29, 29, 6, 0, 13, 11, 9, 0, 0, 9969728, 0, 0, 0, 0, 0, 0, 13, 5, 22, 97, 122, 0, 13, 5, 22, 97, 122, 0, 16, 44, 16, 32, 17, 0, 13, 4, 8, 0, 0, 13, 4, 8, 0, 0, 17, 1, 16, 32, 17, 2, 13, 11, 9, 0, 0, 582738, 0, 0, 0, 0, 0, 0, 13, 5, 22, 97, 122, 0, 13, 5, 22, 97, 122, 0, 17, 3, 16, 32, 17, 4, 13, 4, 8, 0, 0, 13, 4, 8, 0, 0, 13, 4, 8, 0, 0, 13, 4, 8, 0, 0, 17, 5, 16, 32, 17, 6, 13, 4, 8, 0, 0, 13, 4, 8, 0, 0, 17, 7, 16, 58, 17, 8, 13, 4, 8, 0, 0, 13, 4, 8, 0, 0, 17, 9, 16, 58, 17, 10, 13, 4, 8, 0, 0, 13, 4, 8, 0, 0, 17, 11, 16, 32, 16, 71, 16, 77, 16, 84, 6, 5, 1]
structure SO (C : Cx) (t : Array Nat) : Prop extends On C t where
  code : C.code = strictCode
theorem SO.cd (o : SO C t) {i v : Nat} (h : strictCode.getD i 0 = v) : C.code.getD i 0 = v := by rw [o.code]; exact h
theorem SO.sz (o : SO C t) {i : Nat} (h : i < 164) : i < C.code.size := by rw [o.code]; exact h

theorem s5 (o : SO C t) (hG : ch t (fun c => c == 71) 26 = true → ch t (fun c => c == 77) 27 = true → False) : Ends C 43 0 5 0 12 (fun _ => none) (-1) lp none none := by
  refine ends_at (k := 0) (c := 42) (o.sz (by decide)) (o.cd rfl) (o.cd rfl) (fun m a b c => by rw [isAt0 a]; rfl) ?_
  refine o.toOn.one (c := 41) (B := 0) (w := 12) (o.sz (by decide)) (by rw [o.code]; rfl) (acc_charset (pc := 7) (o.sz (by decide)) (o.cd rfl) (o.cd rfl) (o.cd rfl) (fun c => rfl)) (by rw [o.code]; rfl) (fun _ => ?_) fun _ => rfl
  refine o.toOn.one (c := 40) (B := 0) (w := 6) (f := fun c => decide (97 ≤ c) && decide (c ≤ 122)) (o.sz (by decide)) (by rw [o.code]; rfl) (acc_range1 (pc := 19) (o.sz (by decide)) (o.cd rfl) (o.cd rfl) (o.cd rfl) (o.cd rfl) (o.cd rfl)) (by rw [o.code]; rfl) (fun _ => ?_) fun _ => rfl
  refine o.toOn.one (c := 39) (B := 0) (w := 6) (f := fun c => decide (97 ≤ c) && decide (c ≤ 122)) (o.sz (by decide)) (by rw [o.code]; rfl) (acc_range1 (pc := 25) (o.sz (by decide)) (o.cd rfl) (o.cd rfl) (o.cd rfl) (o.cd rfl) (o.cd rfl)) (by rw [o.code]; rfl) (fun _ => ?_) fun _ => rfl
  refine o.toOn.one (c := 38) (B := 0) (w := 2) (f := fun c => c == 44) (o.sz (by decide)) (by rw [o.code]; rfl) (acc_lit (o.cd rfl) (o.cd rfl)) (by rw [o.code]; rfl) (fun _ => ?_) fun _ => rfl
  refine o.toOn.one (c := 37) (B := 0) (w := 2) (f := fun c => c == 32) (o.sz (by decide)) (by rw [o.code]; rfl) (acc_lit (o.cd rfl) (o.cd rfl)) (by rw [o.code]; rfl) (fun _ => ?_) fun _ => rfl
  refine ends_mark (c := 36) (i := 0) (o.sz (by decide)) (o.cd rfl) (o.cd rfl) (by decide) (by decide) ?_
  refine o.toOn.one (c := 35) (B := 0) (w := 5) (f := isDigit) (o.sz (by decide)) (by rw [o.code]; rfl) (acc_cat (k := 0) (pc := 37) (f := isDigit) (o.sz (by decide)) (o.cd rfl) (o.cd rfl) (o.cd rfl) (o.cd rfl) cat_digit) (by rw [o.code]; rfl) (fun _ => ?_) fun _ => rfl
  refine o.toOn.one (c := 34) (B := 0) (w := 5) (f := isDigit) (o.sz (by decide)) (by rw [o.code]; rfl) (acc_cat (k := 0) (pc := 42) (f := isDigit) (o.sz (by decide)) (o.cd rfl) (o.cd rfl) (o.cd rfl) (o.cd rfl) cat_digit) (by rw [o.code]; rfl) (fun _ => ?_) fun _ => rfl
  refine ends_mark (c := 33) (i := 1) (o.sz (by decide)) (o.cd rfl) (o.cd rfl) (by decide) (by decide) ?_
  refine o.toOn.one (c := 32) (B := 0) (w := 2) (f := fun c => c == 32) (o.sz (by decide)) (by rw [o.code]; rfl) (acc_lit (o.cd rfl) (o.cd rfl)) (by rw [o.code]; rfl) (fun _ => ?_) fun _ => rfl
  refine ends_mark (c := 31) (i := 2) (o.sz (by decide)) (o.cd rfl) (o.cd rfl) (by decide) (by decide) ?_
  refine o.toOn.one (c := 30) (B := 0) (w := 12) (o.sz (by decide)) (by rw [o.code]; rfl) (acc_charset (pc := 53) (o.sz (by decide)) (o.cd rfl) (o.cd rfl) (o.cd rfl) (fun c => rfl)) (by rw [o.code]; rfl) (fun _ => ?_) fun _ => rfl
  refine o.toOn.one (c := 29) (B := 0) (w := 6) (f := fun c => decide (97 ≤ c) && decide (c ≤ 122)) (o.sz (by decide)) (by rw [o.code]; rfl) (acc_range1 (pc := 65) (o.sz (by decide)) (o.cd rfl) (o.cd rfl) (o.cd rfl) (o.cd rfl) (o.cd rfl)) (by rw [o.code]; rfl) (fun _ => ?_) fun _ => rfl
  refine o.toOn.one (c := 28) (B := 0) (w := 6) (f := fun c => decide (97 ≤ c) && decide (c ≤ 122)) (o.sz (by decide)) (by rw [o.code]; rfl) (acc_range1 (pc := 71) (o.sz (by decide)) (o.cd rfl) (o.cd rfl) (o.cd rfl) (o.cd rfl) (o.cd rfl)) (by rw [o.code]; rfl) (fun _ => ?_) fun _ => rfl
  refine ends_mark (c := 27) (i := 3) (o.sz (by decide)) (o.cd rfl) (o.cd rfl) (by decide) (by decide) ?_
  refine o.toOn.one (c := 26) (B := 0) (w := 2) (f := fun c => c == 32) (o.sz (by decide)) (by rw [o.code]; rfl) (acc_lit (o.cd rfl) (o.cd rfl)) (by rw [o.code]; rfl) (fun _ => ?_) fun _ => rfl
  refine ends_mark (c := 25) (i := 4) (o.sz (by decide)) (o.cd rfl) (o.cd rfl) (by decide) (by decide) ?_
  refine o.toOn.one (c := 24) (B := 0) (w := 5) (f := isDigit) (o.sz (by decide)) (by rw [o.code]; rfl) (acc_cat (k := 0) (pc := 83) (f := isDigit) (o.sz (by decide)) (o.cd rfl) (o.cd rfl) (o.cd rfl) (o.cd rfl) cat_digit) (by rw [o.code]; rfl) (fun _ => ?_) fun _ => rfl
  refine o.toOn.one (c := 23) (B := 0) (w := 5) (f := isDigit) (o.sz (by decide)) (by rw [o.code]; rfl) (acc_cat (k := 0) (pc := 88) (f := isDigit) (o.sz (by decide)) (o.cd rfl) (o.cd rfl) (o.cd rfl) (o.cd rfl) cat_digit) (by rw [o.code]; rfl) (fun _ => ?_) fun _ => rfl
  refine o.toOn.one (c := 22) (B := 0) (w := 5) (f := isDigit) (o.sz (by decide)) (by rw [o.code]; rfl) (acc_cat (k := 0) (pc := 93) (f := isDigit) (o.sz (by decide)) (o.cd rfl) (o.cd rfl) (o.cd rfl) (o.cd rfl) cat_digit) (by rw [o.code]; rfl) (fun _ => ?_) fun _ => rfl
  refine o.toOn.one (c := 21) (B := 0) (w := 5) (f := isDigit) (o.sz (by decide)) (by rw [o.code]; rfl) (acc_cat (k := 0) (pc := 98) (f := isDigit) (o.sz (by decide)) (o.cd rfl) (o.cd rfl) (o.cd rfl) (o.cd rfl) cat_digit) (by rw [o.code]; rfl) (fun _ => ?_) fun _ => rfl
  refine ends_mark (c := 20) (i := 5) (o.sz (by decide)) (o.cd rfl) (o.cd rfl) (by decide) (by decide) ?_
  refine o.toOn.one (c := 19) (B := 0) (w := 2) (f := fun c => c == 32) (o.sz (by decide)) (by rw [o.code]; rfl) (acc_lit (o.cd rfl) (o.cd rfl)) (by rw [o.code]; rfl) (fun _ => ?_) fun _ => rfl
  refine ends_mark (c := 18) (i := 6) (o.sz (by decide)) (o.cd rfl) (o.cd rfl) (by decide) (by decide) ?_
  refine o.toOn.one (c := 17) (B := 0) (w := 5) (f := isDigit) (o.sz (by decide)) (by rw [o.code]; rfl) (acc_cat (k := 0) (pc := 109) (f := isDigit) (o.sz (by decide)) (o.cd rfl) (o.cd rfl) (o.cd rfl) (o.cd rfl) cat_digit) (by rw [o.code]; rfl) (fun _ => ?_) fun _ => rfl
  refine o.toOn.one (c := 16) (B := 0) (w := 5) (f := isDigit) (o.sz (by decide)) (by rw [o.code]; rfl) (acc_cat (k := 0) (pc := 114) (f := isDigit) (o.sz (by decide)) (o.cd rfl) (o.cd rfl) (o.cd rfl) (o.cd rfl) cat_digit) (by rw [o.code]; rfl) (fun _ => ?_) fun _ => rfl
  refine ends_mark (c := 15) (i := 7) (o.sz (by decide)) (o.cd rfl) (o.cd rfl) (by decide) (by decide) ?_
  refine o.toOn.one (c := 14) (B := 0) (w := 2) (f := fun c => c == 58) (o.sz (by decide)) (by rw [o.code]; rfl) (acc_lit (o.cd rfl) (o.cd rfl)) (by rw [o.code]; rfl) (fun _ => ?_) fun _ => rfl
  refine ends_mark (c := 13) (i := 8) (o.sz (by decide)) (o.cd rfl) (o.cd rfl) (by decide) (by decide) ?_
  refine o.toOn.one (c := 12) (B := 0) (w := 5) (f := isDigit) (o.sz (by decide)) (by rw [o.code]; rfl) (acc_cat (k := 0) (pc := 125) (f := isDigit) (o.sz (by decide)) (o.cd rfl) (o.cd rfl) (o.cd rfl) (o.cd rfl) cat_digit) (by rw [o.code]; rfl) (fun _ => ?_) fun _ => rfl
  refine o.toOn.one (c := 11) (B := 0) (w := 5) (f := isDigit) (o.sz (by decide)) (by rw [o.code]; rfl) (acc_cat (k := 0) (pc := 130) (f := isDigit) (o.sz (by decide)) (o.cd rfl) (o.cd rfl) (o.cd rfl) (o.cd rfl) cat_digit) (by rw [o.code]; rfl) (fun _ => ?_) fun _ => rfl
  refine ends_mark (c := 10) (i := 9) (o.sz (by decide)) (o.cd rfl) (o.cd rfl) (by decide) (by decide) ?_
  refine o.toOn.one (c := 9) (B := 0) (w := 2) (f := fun c => c == 58) (o.sz (by decide)) (by rw [o.code]; rfl) (acc_lit (o.cd rfl) (o.cd rfl)) (by rw [o.code]; rfl) (fun _ => ?_) fun _ => rfl
  refine ends_mark (c := 8) (i := 10) (o.sz (by decide)) (o.cd rfl) (o.cd rfl) (by decide) (by decide) ?_
  refine o.toOn.one (c := 7) (B := 0) (w := 5) (f := isDigit) (o.sz (by decide)) (by rw [o.code]; rfl) (acc_cat (k := 0) (pc := 141) (f := isDigit) (o.sz (by decide)) (o.cd rfl) (o.cd rfl) (o.cd rfl) (o.cd rfl) cat_digit) (by rw [o.code]; rfl) (fun _ => ?_) fun _ => rfl
  refine o.toOn.one (c := 6) (B := 0) (w := 5) (f := isDigit) (o.sz (by decide)) (by rw [o.code]; rfl) (acc_cat (k := 0) (pc := 146) (f := isDigit) (o.sz (by decide)) (o.cd rfl) (o.cd rfl) (o.cd rfl) (o.cd rfl) cat_digit) (by rw [o.code]; rfl) (fun _ => ?_) fun _ => rfl
  refine ends_mark (c := 5) (i := 11) (o.sz (by decide)) (o.cd rfl) (o.cd rfl) (by decide) (by decide) ?_
  refine o.toOn.one (c := 4) (B := 0) (w := 2) (f := fun c => c == 32) (o.sz (by decide)) (by rw [o.code]; rfl) (acc_lit (o.cd rfl) (o.cd rfl)) (by rw [o.code]; rfl) (fun _ => ?_) fun _ => rfl
  refine o.toOn.one (c := 3) (B := 0) (w := 2) (f := fun c => c == 71) (o.sz (by decide)) (by rw [o.code]; rfl) (acc_lit (o.cd rfl) (o.cd rfl)) (by rw [o.code]; rfl) (fun q26 => ?_) fun _ => rfl
  exact (o.toOn.one (c := 0) (B := 0) (w := 2) (f := fun c => c == 77) (o.sz (by decide)) (by rw [o.code]; rfl) (acc_lit (o.cd rfl) (o.cd rfl)) (by rw [o.code]; rfl) (fun q27 => (hG q26 q27).elim) fun _ => rfl).mono (by decide) (by decide)

theorem strict_found (ht : t.size < 65536) (hG : ch t (fun c => c == 71) 26 = true → ch t (fun c => c == 77) 27 = true → False) : Found (3 * t.size + 220) none 12 (forSearch strictCode t 6 0 t.size false) :=
  (at0_found (least := 29) (c := 43) (B := 0) (r := none) rfl rfl rfl rfl (by decide) rfl ht (by decide) (fun h => by cases h) (fun C h1 h2 h3 => s5 ⟨⟨h2, h3, ht⟩, h1⟩ hG)).mono (by omega)

/-! the zone's pattern -/
def tzCode : Array Nat := #[14, 4, 0, 1, 6, 6, 0, 23, 14, 0, 1, 17, 0, 13, 6, 16, 45, 16, 43, 0, 17, 1, 18, 17, 2, 13, 4, 8, 0, 0, 24, 9, 0, 1, 13, 4, 8, 0, 0, 1, 17, 3, 24, 6, 0, 1, 16, 58, 1, 23, 17, 0, 1, 17, 4, 13, 4, 8, 0, 0, 13, 4, 8, 0, 0, 17, 5, 18, 6, 5, 1]
structure TO (C : Cx) (t : Array Nat) : Prop extends On C t where
  code : C.code = tzCode
theorem TO.cd (o : TO C t) {i v : Nat} (h : tzCode.getD i 0 = v) : C.code.getD i 0 = v := by rw [o.code]; exact h
theorem TO.sz (o : TO C t) {i : Nat} (h : i < 71) : i < C.code.size := by rw [o.code]; exact h
theorem TO.dig (o : TO C t) {pc : Nat} (h0 : tzCode.getD pc 0 = 13) (h2 : tzCode.getD (pc + 2) 0 = 8) (h3 : tzCode.getD (pc + 3) 0 = 0) (h4 : tzCode.getD (pc + 4) 0 = 0) : Acc C pc isDigit :=
  acc_cat (o.sz (by decide)) (o.cd h0) (o.cd h2) (o.cd h3) (o.cd h4) cat_digit

theorem Ends.mono2 {c c' B B' sz : Nat} {r : Option Got} (h : Ends C c B pc p sz V lm lp inn r) (hc : c ≤ c') (hB : B ≤ B') : Ends C c' B' pc p sz V lm lp inn r := h.mono hc hB

/-- one or none of f, one first -/
theorem ends_one_or_none {c1 c0 B sz sk : Nat} {f : Nat → Bool} {r1 r0 : Option Got} (o : On C t) (hpc : pc < C.code.size) (ho : C.code.getD pc 0 = 24) (hk1 : C.code.getD (pc + 1) 0 = sk) (hk2 : C.code.getD (pc + 2) 0 = 0) (hk3 : C.code.getD (pc + 3) 0 = 1)
    (ha : Acc C (pc + 4) f) (hp : p ≤ t.size) (h1 : ch t f p = true → Ends C c1 B (pc + 1 + sk) (p + 1) sz V lm lp inn r1) (h0 : Ends C c0 B (pc + 1 + sk) p sz V lm lp inn r0) :
    Ends C (c1 + c0 + 4) (B + 1 + sz) pc p sz V lm lp inn ((if ch t f p then r1 else none).or r0) := by
  have hs : span t f p = if ch t f p then span t f (p + 1) + 1 else 0 := span_eq t f p
  have g0 : Gives C (c0 + 1) (B + 1 + sz) pc p 0 sz V lm lp inn r0 := by
    cases r0 with
    | none => exact gives_last hk1 hk2 rfl h0
    | some g => exact gives_win hk1 h0
  cases q : ch t f p with
  | false =>
    rw [q, if_neg (by decide)] at hs
    rw [if_neg (by decide), Option.none_or]
    exact (ends_rep1 (n := 0) hpc ho hk2 hk3 ha (by rw [o.runs, hs]; rfl) (by rw [o.lim]; exact hp) (Nat.zero_le _) g0).mono (by omega) (Nat.le_refl _)
  | true =>
    rw [q, if_pos rfl] at hs
    rw [if_pos rfl]
    have hn : runLen C f (min 1 (C.lim - p)) p = 1 := by rw [o.runs, hs]; omega
    have h1 := h1 q
    cases r1 with
    | some g => exact (ends_rep1 (n := 1) hpc ho hk2 hk3 ha hn (by rw [o.lim]; exact hp) (Nat.zero_le _) (gives_win hk1 h1)).mono (by omega) (Nat.le_refl _)
    | none => exact (ends_rep1 (n := 1) hpc ho hk2 hk3 ha hn (by rw [o.lim]; exact hp) (Nat.zero_le _) (gives_next (n := 0) hk1 hk2 (Nat.le_refl _) h1 g0 (Nat.le_refl _))).mono (by omega) (Nat.le_refl _)

def gE (t : Array Nat) (V : Nat → Option Nat) (lm : Int) (p : Nat) : Option Got := if eot t p then some ⟨p, lm, V⟩ else none
theorem z68 (o : TO C t) : Ends C 2 0 68 p 6 V lm lp inn (gE t V lm p) := by
  unfold gE
  cases q : eot t p with
  | true => exact ends_at (c := 1) (k := 5) (o.sz (by decide)) (o.cd rfl) (o.cd rfl) (fun m a b c => by rw [isAt5 a b c o.toOn, q]) (ends_success (o.sz (by decide)) (o.cd rfl))
  | false => exact (ends_at_not (k := 5) (o.sz (by decide)) (o.cd rfl) (o.cd rfl) (fun m a b c => by rw [isAt5 a b c o.toOn, q])).mono (by decide) (Nat.le_refl _)

/-- two figures more, or none -/
def gMM (t : Array Nat) (V : Nat → Option Nat) (p : Nat) : Option Got :=
  (if ch t isDigit p then (if ch t isDigit (p + 1) then gE t (setV (setV V 3 4 p) 4 5 (p + 2)) 5 (p + 2) else none) else none).or (gE t V 3 p)
theorem z49 (o : TO C t) (hp : p ≤ t.size) : Ends C 20 40 49 p 6 V 3 lp none (gMM t V p) := by
  have hl : (lpIn lp 49 p none).getD lp.size { pc := 0, outer := none } = { pc := 49, count := 0, began := some p, outer := none } := push_getD
  have body : Ends C 9 10 53 p 6 V 3 (lpIn lp 49 p none) (some lp.size) (if ch t isDigit p then (if ch t isDigit (p + 1) then gE t (setV (setV V 3 4 p) 4 5 (p + 2)) 5 (p + 2) else none) else none) := by
    refine ends_mark (c := 8) (i := 4) (o.sz (by decide)) (o.cd rfl) (o.cd rfl) (by decide) (by decide) ?_
    refine o.toOn.one (c := 7) (B := 10) (w := 5) (f := isDigit) (o.sz (by decide)) (by rw [o.code]; rfl) (o.dig rfl rfl rfl rfl) (by rw [o.code]; rfl) (fun q1 => ?_) fun q1 => by rw [if_neg (by rw [q1]; decide)]
    rw [if_pos q1]
    refine o.toOn.one (c := 6) (B := 10) (w := 5) (f := isDigit) (o.sz (by decide)) (by rw [o.code]; rfl) (o.dig rfl rfl rfl rfl) (by rw [o.code]; rfl) (fun q2 => ?_) fun q2 => by rw [if_neg (by rw [q2]; decide)]
    rw [if_pos q2, show p + 1 + 1 = p + 2 from rfl]
    refine ends_mark (c := 5) (i := 5) (o.sz (by decide)) (o.cd rfl) (o.cd rfl) (by decide) (by decide) ?_
    exact (ends_until (rp := 49) (B := 0) (c := 2) (o.sz (by decide)) (o.cd rfl) rfl hl (o.cd rfl) (o.cd rfl) (z68 o)).mono (by decide) (by decide)
  exact (ends_may (B := 10) (rp := 49) (sk := 17) (u := 67) (o.sz (by decide)) (o.cd rfl) (o.cd rfl) rfl (o.sz (by decide)) (o.cd rfl) (o.cd rfl) (o.cd rfl) body ((z68 o).mono (Nat.le_refl _) (by decide))).mono (by decide) (by decide)

/-- behind the hour; no colon stands in the text -/
theorem z40 (o : TO C t) (hp : p ≤ t.size) (hco : ch t isCo p = false) : Ends C 30 50 40 p 6 V 2 lp none (gMM t (setV V 2 3 p) p) := by
  refine (ends_mark (c := 25) (i := 3) (o.sz (by decide)) (o.cd rfl) (o.cd rfl) (by decide) (by decide) ?_).mono (by decide) (Nat.le_refl _)
  have := ends_one_or_none (V := setV V 2 3 p) (lm := 3) (lp := lp) (inn := none) (c1 := 0) (c0 := 20) (B := 40) (sz := 6) (f := isCo) (r1 := none) o.toOn (pc := 42) (p := p) (o.sz (by decide)) (o.cd rfl) (o.cd (v := 6) rfl) (o.cd rfl) (o.cd rfl) (acc_lit (o.cd rfl) (o.cd rfl)) hp
    (fun q => by rw [hco] at q; cases q) (z49 o hp)
  rw [hco, if_neg (by decide), Option.none_or] at this
  exact this.mono (by decide) (by decide)

/-- the hour at h -/
def gHH (t : Array Nat) (V : Nat → Option Nat) (lm : Int) (h : Nat) : Option Got :=
  if ch t isDigit h then (if ch t isDigit (h + 1) then gMM t (setV (setV V lm 2 h) 2 3 (h + 2)) (h + 2) else none).or (gMM t (setV (setV V lm 2 h) 2 3 (h + 1)) (h + 1)) else none
theorem z23 (o : TO C t) (hlm : lm < 2) (hco : ∀ q, ch t isCo q = false) : Ends C 80 60 23 p 6 V lm lp none (gHH t V lm p) := by
  unfold gHH
  refine (ends_mark (c := 75) (i := 2) (o.sz (by decide)) (o.cd rfl) (o.cd rfl) hlm (by decide) ?_).mono (by decide) (Nat.le_refl _)
  refine (o.toOn.one (c := 70) (B := 60) (w := 5) (f := isDigit) (o.sz (by decide)) (by rw [o.code]; rfl) (o.dig rfl rfl rfl rfl) (by rw [o.code]; rfl) (fun q1 => ?_) fun q1 => by rw [if_neg (by rw [q1]; decide)]).mono (by decide) (Nat.le_refl _)
  rw [if_pos q1]
  have hp1 : p + 1 ≤ t.size := ch_lt q1
  exact (ends_one_or_none (c1 := 30) (c0 := 30) (B := 50) (f := isDigit) o.toOn (o.sz (by decide)) (o.cd rfl) (o.cd (v := 9) rfl) (o.cd rfl) (o.cd rfl) (o.dig rfl rfl rfl rfl) hp1 (fun q2 => z40 o (ch_lt q2) (hco _)) (z40 o hp1 (hco _))).mono (by decide) (by decide)

def gTZ (t : Array Nat) : Option Got :=
  (if ch t isSign 0 then gHH t (setV (setV (fun _ => none) (-1) 0 0) 0 1 1) 1 1 else none).or (gHH t (fun _ => none) (-1) 0)

theorem z5 (o : TO C t) (hco : ∀ q, ch t isCo q = false) : Ends C 200 100 5 0 6 (fun _ => none) (-1) lp none (gTZ t) := by
  refine (ends_at (k := 0) (c := 190) (o.sz (by decide)) (o.cd rfl) (o.cd rfl) (fun m a b c => by rw [isAt0 a]; rfl) ?_).mono (by decide) (Nat.le_refl _)
  have hl : (lpIn lp 7 0 none).getD lp.size { pc := 0, outer := none } = { pc := 7, count := 0, began := some 0, outer := none } := push_getD
  have body : Ends C 90 70 11 0 6 (fun _ => none) (-1) (lpIn lp 7 0 none) (some lp.size) (if ch t isSign 0 then gHH t (setV (setV (fun _ => none) (-1) 0 0) 0 1 1) 1 1 else none) := by
    refine (ends_mark (c := 86) (i := 0) (o.sz (by decide)) (o.cd rfl) (o.cd rfl) (by decide) (by decide) ?_).mono (by decide) (Nat.le_refl _)
    refine o.toOn.one (c := 85) (B := 70) (w := 7) (f := isSign) (o.sz (by decide)) (by rw [o.code]; rfl) (acc_two (pc := 13) (o.sz (by decide)) (o.cd rfl) (o.cd rfl) (o.cd rfl) (o.cd rfl) (o.cd rfl) (o.cd rfl)) (by rw [o.code]; rfl) (fun q1 => ?_) fun q1 => by rw [if_neg (by rw [q1]; decide)]
    rw [if_pos q1]
    refine (ends_mark (c := 83) (i := 1) (o.sz (by decide)) (o.cd rfl) (o.cd rfl) (by decide) (by decide) ?_).mono (by decide) (Nat.le_refl _)
    exact (ends_until (rp := 7) (B := 60) (c := 80) (o.sz (by decide)) (o.cd rfl) rfl hl (o.cd rfl) (o.cd rfl) (z23 o (by decide) hco)).mono (by decide) (by decide)
  exact (ends_may (B := 70) (rp := 7) (sk := 14) (u := 22) (o.sz (by decide)) (o.cd rfl) (o.cd rfl) rfl (o.sz (by decide)) (o.cd rfl) (o.cd rfl) (o.cd rfl) body ((z23 o (by decide) hco).mono (Nat.le_refl _) (by decide))).mono (by decide) (by decide)

theorem tz_found (ht : t.size < 65536) (hco : ∀ q, ch t isCo q = false) : Found (3 * t.size + 220) (gTZ t) 6 (forSearch tzCode t 3 0 t.size false) := by
  refine (at0_found (least := 1) (c := 200) (B := 100) (r := gTZ t) rfl rfl rfl rfl (by decide) rfl ht (by decide) (fun h => ?_) (fun C h1 h2 h3 => z5 ⟨⟨h2, h3, ht⟩, h1⟩ hco)).mono (by omega)
  by_cases q : t.size = 0
  · have e : ∀ f p, ch t f p = false := fun f p => ch_end (by omega)
    unfold gTZ gHH at h
    simp [e] at h
  · omega
end
end Mine
end

section
open PySem PySem.W PyProof.Rows
set_option Elab.async false
set_option linter.unusedVariables false
set_option maxRecDepth 100000
namespace Mine
open PySem.Sre PySem.Builtin PySem.Builtin.Re

theorem step_fix {m : Sre.M} (h : m.outcome.isSome = true) : m.step = m := by unfold M.step; rw [if_pos h]
theorem stepN_fix {m : Sre.M} (h : m.outcome.isSome = true) : ∀ n, stepN n m = m := by
  intro n
  induction n with
  | zero => rfl
  | succ n ih => unfold stepN; rw [step_fix h, ih]

section
variable {M : PySem.Model} {A : Around} {E : Value → Shared → Prop} {s : Shared}

theorem wp_reDrive {Q : Sre.M → Shared → Prop} {m' : Sre.M} (hq : Q m' s) (ho : m'.outcome.isSome = true) : ∀ (turns n : Nat) (m : Sre.M), stepN n m = m' → n < 4 * turns →
    wpAny M A (reDrive turns m) Q E s := by
  intro turns
  induction turns with
  | zero => intro n m h hn; omega
  | succ k ih =>
    intro n m h hn
    unfold reDrive
    have e4 : m.runFor reTurnSteps = stepN 4 m := runFor_stepN _ _
    rw [e4]
    dsimp only
    by_cases h4 : (stepN 4 m).outcome.isSome = true
    · rw [if_pos h4]
      have : stepN 4 m = m' := by
        by_cases hn4 : n ≤ 4
        · obtain ⟨j, e⟩ : ∃ j, 4 = n + j := ⟨4 - n, by omega⟩
          rw [e, stepN_add, h, stepN_fix ho]
        · obtain ⟨j, rfl⟩ : ∃ j, n = 4 + j := ⟨n - 4, by omega⟩
          rw [stepN_add, stepN_fix h4] at h
          exact h
      rw [this]
      exact wpAny_pure hq
    · rw [if_neg h4]
      refine wpAny_bind (wpAny_rule ?_)
      by_cases hn4 : n ≤ 4
      · obtain ⟨j, e⟩ : ∃ j, 4 = n + j := ⟨4 - n, by omega⟩
        exfalso; apply h4
        rw [show stepN 4 m = m' from by rw [e, stepN_add, h, stepN_fix ho]]
        exact ho
      · obtain ⟨j, rfl⟩ : ∃ j, n = 4 + j := ⟨n - 4, by omega⟩
        rw [stepN_add] at h
        exact ih j _ h (by omega)

theorem wp_forList {α : Type} {f : α → PUnit → Sem (ForInStep PUnit)} {Q : PUnit → Shared → Prop} : ∀ (l : List α), (∀ a ∈ l, ∀ (Q' : ForInStep PUnit → Shared → Prop), Q' (.yield ⟨⟩) s → wpAny M A (f a ⟨⟩) Q' E s) → Q ⟨⟩ s →
    wpAny M A (forIn l (⟨⟩ : PUnit) f) Q E s
  | [], _, hq => wpAny_pure hq
  | a :: l, h, hq => by
    rw [List.forIn_cons]
    refine wpAny_bind (h a List.mem_cons_self _ ?_)
    exact wp_forList l (fun b hb => h b (List.mem_cons_of_mem _ hb)) hq

theorem wp_reRunToEnd {Q : Option Sre.M → Shared → Prop} {m m' : Sre.M} {n : Nat} (h : stepN n m = m') (hn : n < 2 ^ 60) (ho : m'.outcome = some .matched ∧ Q (some m') s ∨ m'.outcome = some .failed ∧ Q none s) :
    wpAny M A (reRunToEnd m) Q E s := by
  unfold reRunToEnd
  refine wpAny_bind (wp_reDrive (m' := m') ?_ (by rcases ho with ⟨h, _⟩ | ⟨h, _⟩ <;> rw [h] <;> rfl) (2 ^ 64) n m h (by omega))
  refine wpAny_bind (wp_forList _ ?_ ?_)
  · intro i _ Q' hq
    split
    · exact wpAny_bind (wpAny_rule (wpAny_pure hq))
    · exact wpAny_pure hq
  · rcases ho with ⟨h, hq⟩ | ⟨h, hq⟩ <;> rw [h] <;> exact wpAny_pure hq

theorem wp_found {Q : Option Sre.M → Shared → Prop} {m : Sre.M} {c sz : Nat} {r : Option Got} (h : Found c r sz m) (hc : c < 2 ^ 60)
    (hq : match r with
      | none => Q none s
      | some g => ∀ m', m'.start = 0 → m'.handed = g.e → m'.lastmark = g.lm → Vis m'.marks sz g.lm g.V → Q (some m') s) : wpAny M A (reRunToEnd m) Q E s := by
  obtain ⟨n, hn, m', e, h⟩ := h
  cases r with
  | none => exact wp_reRunToEnd e (by omega) (.inr ⟨h, hq⟩)
  | some g => exact wp_reRunToEnd e (by omega) (.inl ⟨h.1, hq m' h.2.1 h.2.2.1 h.2.2.2.1 h.2.2.2.2⟩)
end
end Mine
end

section
open PySem PySem.W PyProof.Rows
set_option Elab.async false
set_option linter.unusedVariables false
set_option maxRecDepth 100000
namespace Mine
open PySem.Sre PySem.Builtin PySem.Builtin.Re

theorem slot_search : Slot "re.Pattern" "search" "re.Pattern.search" :=
  .of (owner := "re.Pattern") (n := "search") (by rw [typeLookup_type, builtinLookup_eq_fast]; kernel_rfl) (by decide +kernel) (by decide +kernel) (by decide +kernel)
    (by first | exact .inl (by decide +kernel) | exact .inr (by decide +kernel)) (by rw [isSubtype_type]; kernel_rfl)
theorem entry_search : entryFor table "re.Pattern.search" = some Builtin.«re.Pattern.search» := entryFor_of_tree (by kernel_rfl)
theorem args_search (a b : Value) : argsOk "re.Pattern.search" ⟨[a, b], []⟩ := by unfold argsOk; kernel_rfl
theorem type_search : typeOf (.builtin "re.Pattern.search") = pure (.type "method_descriptor") := by show builtinType _ = _; rw [builtinType_eq_fast]; kernel_rfl
theorem plain_pattern : PlainAttrs "re.Pattern" :=
  ⟨⟨"object.__getattribute__", by rw [typeLookup_type, builtinLookup_eq_fast]; kernel_rfl, by decide +kernel⟩, by rw [typeLookup_type, builtinLookup_eq_fast]; kernel_rfl⟩
theorem slot_sub : Slot "re.Pattern" "sub" "re.Pattern.sub" :=
  .of (owner := "re.Pattern") (n := "sub") (by rw [typeLookup_type, builtinLookup_eq_fast]; kernel_rfl) (by decide +kernel) (by decide +kernel) (by decide +kernel)
    (by first | exact .inl (by decide +kernel) | exact .inr (by decide +kernel)) (by rw [isSubtype_type]; kernel_rfl)
theorem entry_sub : entryFor table "re.Pattern.sub" = some Builtin.«re.Pattern.sub» := entryFor_of_tree (by kernel_rfl)
theorem entry_subloop : entryFor table "re.Pattern.sub.loop" = some Builtin.«re.Pattern.sub.loop» := entryFor_of_tree (by kernel_rfl)
theorem args_sub (a b c d : Value) : argsOk "re.Pattern.sub" ⟨[a, b, c, d], []⟩ := by unfold argsOk; kernel_rfl
theorem type_sub : typeOf (.builtin "re.Pattern.sub") = pure (.type "method_descriptor") := by show builtinType _ = _; rw [builtinType_eq_fast]; kernel_rfl
theorem plain_match : PlainAttrs "re.Match" :=
  ⟨⟨"object.__getattribute__", by rw [typeLookup_type, builtinLookup_eq_fast]; kernel_rfl, by decide +kernel⟩, by rw [typeLookup_type, builtinLookup_eq_fast]; kernel_rfl⟩
theorem slot_groups : Slot "re.Match" "groups" "re.Match.groups" :=
  .of (owner := "re.Match") (n := "groups") (by rw [typeLookup_type, builtinLookup_eq_fast]; kernel_rfl) (by decide +kernel) (by decide +kernel) (by decide +kernel)
    (by first | exact .inl (by decide +kernel) | exact .inr (by decide +kernel)) (by rw [isSubtype_type]; kernel_rfl)
theorem entry_groups : entryFor table "re.Match.groups" = some Builtin.«re.Match.groups» := entryFor_of_tree (by kernel_rfl)
theorem args_groups (a : Value) : argsOk "re.Match.groups" ⟨[a], []⟩ := by unfold argsOk; kernel_rfl
theorem type_groups : typeOf (.builtin "re.Match.groups") = pure (.type "method_descriptor") := by show builtinType _ = _; rw [builtinType_eq_fast]; kernel_rfl
theorem slot_group : Slot "re.Match" "group" "re.Match.group" :=
  .of (owner := "re.Match") (n := "group") (by rw [typeLookup_type, builtinLookup_eq_fast]; kernel_rfl) (by decide +kernel) (by decide +kernel) (by decide +kernel)
    (by first | exact .inl (by decide +kernel) | exact .inr (by decide +kernel)) (by rw [isSubtype_type]; kernel_rfl)
theorem entry_group : entryFor table "re.Match.group" = some Builtin.«re.Match.group» := entryFor_of_tree (by kernel_rfl)
theorem args_group (a b : Value) : argsOk "re.Match.group" ⟨[a, b], []⟩ := by unfold argsOk; kernel_rfl
theorem type_group : typeOf (.builtin "re.Match.group") = pure (.type "method_descriptor") := by show builtinType _ = _; rw [builtinType_eq_fast]; kernel_rfl

theorem named_search (x : PySem.Str) (tk : Tok) : reNamed "re.Pattern.search" "search" ["string", "pos", "endpos"] 1 [.str x tk] [] = pure [some (.str x tk), none, none] := by rfl
end Mine
end

section
open PySem PySem.W PyProof.Rows
set_option Elab.async false
set_option linter.unusedVariables false
set_option maxRecDepth 100000
namespace Mine
open PySem.Sre PySem.Builtin PySem.Builtin.Re

def grp (g : Got) (k : Nat) : Option (Nat × Nat) :=
  if ((2 * k + 1 : Nat) : Int) ≤ g.lm then (match g.V (2 * k), g.V (2 * k + 1) with
    | some b, some e => some (b, e)
    | _, _ => none) else none
def spanOf : Option (Nat × Nat) → List Value
  | some (b, e) => [rawInt b, rawInt e]
  | none => [rawInt (-1), rawInt (-1)]
def spanVals (g : Got) (n : Nat) : List Value := rawInt 0 :: rawInt g.e :: (List.range n).flatMap fun k => spanOf (grp g k)
abbrev matchObj (x : PySem.Str) (tk : Tok) (P lim : Nat) (li : Int) (sp : Addr) : Obj := { cls := .type "re.Match", data := .fields #[.str x tk, .ref P, rawInt 0, rawInt lim, rawInt li, .ref sp] }
abbrev tupOf (vs : List Value) : Obj := { cls := .type "tuple", data := .seq vs.toArray }
abbrev patObj (pat : PySem.Str) (t1 : Tok) (fl : Int) (t2 : Tok) (groups : Nat) (cd : Addr) : Obj := { cls := .type "re.Pattern", data := .fields #[.str pat t1, .int fl t2, .int groups 0, .none, .none, .ref cd, .int 0 0] }

structure IsPat (h : Heap) (P : Addr) (code : Array Nat) (groups : Nat) : Prop where
  pat : ∃ pat t1 fl t2 cd items, h.get? P = some (patObj pat t1 fl t2 groups cd) ∧ h.get? cd = some { cls := .type "tuple", data := .seq items } ∧ (items.map reRawOf).map (·.toNat) = code
theorem IsPat.keeps {h h' : Heap} {P : Addr} {code : Array Nat} {groups : Nat} (p : IsPat h P code groups) (k : ∀ b o, h.get? b = some o → h'.get? b = some o) : IsPat h' P code groups :=
  let ⟨pat, t1, fl, t2, cd, items, a, b, c⟩ := p.pat
  ⟨pat, t1, fl, t2, cd, items, k _ _ a, k _ _ b, c⟩

section
variable {M : PySem.Model} {prog : Program} {w : World} {A : Around} {E : Value → Shared → Prop} {s : Shared}

theorem wp_rawItems {a : Addr} {o : Obj} {items : Array Value} {n : Nat} {Q : Array Int → Shared → Prop} (ho : s.heap.get? a = some o) (hd : o.data = .seq items n) (h : Q (items.map reRawOf) s) : wpAny M A (reRawItems (.ref a)) Q E s := by
  unfold reRawItems
  exact wpAny_bind (wpAny_seqItems ho hd (wpAny_pure h))

theorem wp_target {P : Addr} {x : PySem.Str} {tk : Tok} {code : Array Nat} {groups : Nat} {Q : ReTarget → Shared → Prop} (hp : IsPat s.heap P code groups)
    (h : Q { pattern := .ref P, string := .str x tk, code := code, text := x.cps, kind := 0, groups := groups, pos := 0, lim := x.cps.size } s) (hx : x.cps.size < 65536) :
    wpAny M A (reTarget "re.Pattern.search" "search" ⟨[.ref P, .str x tk], []⟩) Q E s := by
  obtain ⟨pat, t1, fl, t2, cd, items, h1, h2, h3⟩ := hp.pat
  unfold reTarget
  dsimp only
  rw [named_search]
  refine wpAny_bind (wpAny_pure ?_)
  dsimp only
  refine wpAny_bind (wpAny_pure (wpAny_bind (wpAny_pure ?_)))
  refine wpAny_bind (wpAny_fieldsOf h1 rfl ?_)
  refine wpAny_bind (wpAny_pure (a := (x.cps, 0)) ?_)
  dsimp only
  have e : reRawNat ((#[.str pat t1, .int fl t2, .int groups 0, .none, .none, .ref cd, .int 0 0] : Array Value).getD 6 .none) = 0 := rfl
  rw [e]
  simp only [beq_self_eq_true, Bool.true_and, Bool.false_and, show ((0 : Nat) == 1) = false from rfl, Bool.false_eq_true, if_false]
  refine wpAny_bind ?_
  refine wpAny_pure ?_
  refine wpAny_bind (wp_rawItems (a := cd) h2 rfl (wpAny_pure ?_))
  have e1 : reRawNat ((#[.str pat t1, .int fl t2, .int groups 0, .none, .none, .ref cd, .int 0 0] : Array Value).getD 2 .none) = groups := by
    show (groups : Int).toNat = groups; omega
  have e2 : min ((2 : Int) ^ 63 - 1).toNat x.cps.size = x.cps.size := by
    have : ((2 : Int) ^ 63 - 1).toNat = 9223372036854775807 := by decide
    rw [this]; omega
  have e3 : min (Int.toNat 0) x.cps.size = 0 := by simp
  rw [h3, e1, e2, e3]
  exact h

theorem grp_wrong {g : Got} {groups sz : Nat} {mk : Array (Option Nat)} {lm : Int} (hlm : lm = g.lm) (hv : Vis mk sz g.lm g.V) (hok : ∀ k b e, grp g k = some (b, e) → b ≤ e) :
    ((List.range groups).any fun k => match mk.getD (2 * k) none, mk.getD (2 * k + 1) none with | some b, some e => ((2 * k + 1 : Nat) : Int) ≤ lm && e < b | _, _ => false) = false := by
  subst hlm
  rw [List.any_eq_false]
  intro k _
  by_cases hk : ((2 * k + 1 : Nat) : Int) ≤ g.lm
  · have h1 := hv.2 (2 * k) (by omega)
    have h2 := hv.2 (2 * k + 1) hk
    rw [h1, h2]
    have h3 := hok k
    unfold grp at h3
    rw [if_pos hk] at h3
    cases q1 : g.V (2 * k) with
    | none => simp
    | some b => cases q2 : g.V (2 * k + 1) with
      | none => simp
      | some e =>
        rw [q1, q2] at h3
        have := h3 b e rfl
        simp; omega
  · cases mk.getD (2 * k) none <;> cases mk.getD (2 * k + 1) none <;> simp <;> omega

theorem grp_spans {g : Got} {groups sz : Nat} {mk : Array (Option Nat)} {lm : Int} (hlm : lm = g.lm) (hv : Vis mk sz g.lm g.V) :
    ((List.range groups).flatMap fun k => match (if ((2 * k + 1 : Nat) : Int) ≤ lm then (mk.getD (2 * k) none, mk.getD (2 * k + 1) none) else (none, none)) with
      | (some b, some e) => [rawInt b, rawInt e]
      | _ => [rawInt (-1), rawInt (-1)]) = (List.range groups).flatMap fun k => spanOf (grp g k) := by
  subst hlm
  congr 1
  funext k
  unfold grp
  by_cases hk : ((2 * k + 1 : Nat) : Int) ≤ g.lm
  · rw [if_pos hk, if_pos hk, hv.2 (2 * k) (by omega), hv.2 (2 * k + 1) hk]
    cases g.V (2 * k) <;> cases g.V (2 * k + 1) <;> rfl
  · rw [if_neg hk, if_neg hk]; rfl

theorem wp_newMatch {P : Addr} {x : PySem.Str} {tk : Tok} {groups lim sz : Nat} {m : Sre.M} {g : Got} {Q : Value → Shared → Prop} (h1 : m.start = 0) (h2 : m.handed = g.e) (h3 : m.lastmark = g.lm) (hv : Vis m.marks sz g.lm g.V)
    (hg : groups ≤ 100) (hok : ∀ k b e, grp g k = some (b, e) → b ≤ e)
    (h : Q (.ref (s.heap.objs.size + 1)) { s with heap := (s.heap.push (tupOf (spanVals g groups))).push (matchObj x tk P lim m.lastindex s.heap.objs.size) }) :
    wpAny M A (reNewMatch (.ref P) (.str x tk) groups 0 lim m) Q E s := by
  have e0 : reNewMatch (.ref P) (.str x tk) groups 0 lim m = (if ((List.range groups).any fun k => match m.marks.getD (2 * k) none, m.marks.getD (2 * k + 1) none with | some b, some e => ((2 * k + 1 : Nat) : Int) ≤ m.lastmark && e < b | _, _ => false) = true then (do
        reWrongSpan
        newFields "re.Match" [.str x tk, .ref P, rawInt (0 : Nat), rawInt lim, rawInt m.lastindex, ← newTuple (rawInt m.start :: rawInt m.handed :: (List.range groups).flatMap fun k => match (if ((2 * k + 1 : Nat) : Int) ≤ m.lastmark then (m.marks.getD (2 * k) none, m.marks.getD (2 * k + 1) none) else (none, none)) with
      | (some b, some e) => [rawInt b, rawInt e]
      | _ => [rawInt (-1), rawInt (-1)])] : Sem Value)
      else (do newFields "re.Match" [.str x tk, .ref P, rawInt (0 : Nat), rawInt lim, rawInt m.lastindex, ← newTuple (rawInt m.start :: rawInt m.handed :: (List.range groups).flatMap fun k => match (if ((2 * k + 1 : Nat) : Int) ≤ m.lastmark then (m.marks.getD (2 * k) none, m.marks.getD (2 * k + 1) none) else (none, none)) with
      | (some b, some e) => [rawInt b, rawInt e]
      | _ => [rawInt (-1), rawInt (-1)])] : Sem Value)) := rfl
  rw [e0, grp_wrong h3 hv hok, grp_spans h3 hv, if_neg (by decide), h1, h2]
  have hlen : ((List.range groups).flatMap fun k => spanOf (grp g k)).length = 2 * groups := by
    clear e0 h
    induction groups with
    | zero => rfl
    | succ n ih =>
      rw [List.range_succ, List.flatMap_append, List.length_append, ih (by omega)]
      have : (List.flatMap (fun k => spanOf (grp g k)) [n]).length = 2 := by
        simp only [List.flatMap_cons, List.flatMap_nil, List.append_nil]
        cases grp g n <;> rfl
      rw [this]; omega
  refine wpAny_bind (wpAny_newTuple ?_ ?_)
  rotate_left
  · simp only [List.length_cons, hlen]; rw [sizeLine_eq]; omega
  refine wpAny_newObj_type (dict := none) ?_ (by show 6 ≤ sizeLine + 2; rw [sizeLine_eq]; decide)
  have e : (s.heap.push { cls := .type "tuple", data := .seq (rawInt ((0 : Nat) : Int) :: rawInt g.e :: (List.range groups).flatMap fun k => spanOf (grp g k)).toArray }).objs.size = s.heap.objs.size + 1 := by simp [Heap.push]
  dsimp only
  rw [e]
  exact h
end
end Mine
end

section
open PySem PySem.W PyProof.Rows
set_option Elab.async false
set_option linter.unusedVariables false
set_option maxRecDepth 100000
namespace Mine
open PySem.Sre PySem.Builtin PySem.Builtin.Re

def optVal : Option PySem.Str → Tok → Value
  | some x, t => .str x t
  | none, _ => .none
def txt (x : PySem.Str) : Option (Nat × Nat) → Option PySem.Str
  | some (b, e) => some ⟨x.cps.extract b e⟩
  | none => none

section
variable {prog : Program} {w : World} {A : Around} {E : Value → Shared → Prop} {s : Shared} {h₀ : Heap} {L : Addr} {m : Str → Option Value} {news : List (Addr × Obj)}

theorem call_search {P : Addr} {x : PySem.Str} {tk : Tok} {code : Array Nat} {groups c sz : Nat} {r : Option Got} {Q : Value → Shared → Prop} (F : Fr h₀ L s.heap m) (N : News h₀ L s.heap news) (hp : IsPat s.heap P code groups) (hx : x.cps.size < 65536)
    (hf : Found c r sz (forSearch code x.cps groups 0 x.cps.size false)) (hc : c < 2 ^ 60) (hg : groups ≤ 100) (hok : ∀ g, r = some g → ∀ k b e, grp g k = some (b, e) → b ≤ e)
    (h0 : r = none → Q .none s)
    (h1 : ∀ g, r = some g → ∀ mt sp li h', Fr h₀ L h' m → News h₀ L h' ((mt, matchObj x tk P x.cps.size li sp) :: (sp, tupOf (spanVals g groups)) :: news) → (∀ p ∈ news, p.1 < sp) → sp < mt → Q (.ref mt) { s with heap := h' }) :
    wpAny (model prog w) A (call (.builtin "re.Pattern.search") [.ref P, .str x tk]) Q E s := by
  have hT : s.TypeIs (.ref P) "re.Pattern" := by obtain ⟨pat, t1, fl, t2, cd, items, a, b⟩ := hp.pat; exact ⟨_, a, rfl⟩
  refine wpAny_call_entry slot_search hT entry_search ?_ (args_search _ _)
  unfold «re.Pattern.search»
  refine wpAny_bind (wp_target hp ?_ hx)
  unfold reAnswer
  dsimp only
  refine wpAny_bind (wp_found hf hc ?_)
  cases r with
  | none => exact wpAny_pure ⟨_, rfl, h0 rfl⟩
  | some g =>
    dsimp only
    intro m' e1 e2 e3 hv
    refine wpAny_bind (wp_newMatch e1 e2 e3 hv hg (hok g rfl) ?_)
    refine wpAny_pure ⟨_, rfl, ?_⟩
    have F1 := F.push (tupOf (spanVals g groups))
    have N1 := News.push F N (tupOf (spanVals g groups))
    have F2 := F1.push (matchObj x tk P x.cps.size m'.lastindex s.heap.objs.size)
    have N2 := News.push F1 N1 (matchObj x tk P x.cps.size m'.lastindex s.heap.objs.size)
    have e : (s.heap.push (tupOf (spanVals g groups))).objs.size = s.heap.objs.size + 1 := by simp [Heap.push]
    rw [e] at N2
    exact h1 g rfl _ _ _ _ F2 N2 (fun p hp => Heap.lt_size (N p hp).1) (Nat.lt_succ_self _)

theorem get_search {P : Addr} {code : Array Nat} {groups : Nat} {pl : Sem Bool} {Q : Value × List Value → Shared → Prop} (hp : IsPat s.heap P code groups) (h : Q (.builtin "re.Pattern.search", [.ref P]) s) :
    wpAny (model prog w) A (getMethod (.ref P) "search" pl) Q E s := by
  obtain ⟨pat, t1, fl, t2, cd, items, a, b⟩ := hp.pat
  exact getMethod_builtin (T := "re.Pattern") ⟨_, a, rfl⟩ plain_pattern slot_search type_search (fun a' e => by cases e; exact ⟨_, a, rfl⟩) h
theorem get_sub {P : Addr} {code : Array Nat} {groups : Nat} {pl : Sem Bool} {Q : Value × List Value → Shared → Prop} (hp : IsPat s.heap P code groups) (h : Q (.builtin "re.Pattern.sub", [.ref P]) s) :
    wpAny (model prog w) A (getMethod (.ref P) "sub" pl) Q E s := by
  obtain ⟨pat, t1, fl, t2, cd, items, a, b⟩ := hp.pat
  exact getMethod_builtin (T := "re.Pattern") ⟨_, a, rfl⟩ plain_pattern slot_sub type_sub (fun a' e => by cases e; exact ⟨_, a, rfl⟩) h
theorem get_groups {mt P lim : Addr} {x : PySem.Str} {tk : Tok} {li : Int} {sp : Addr} {pl : Sem Bool} {Q : Value × List Value → Shared → Prop} (N : News h₀ L s.heap news) (hm : (mt, matchObj x tk P lim li sp) ∈ news) (h : Q (.builtin "re.Match.groups", [.ref mt]) s) :
    wpAny (model prog w) A (getMethod (.ref mt) "groups" pl) Q E s :=
  getMethod_builtin (T := "re.Match") ⟨_, (N _ hm).1, rfl⟩ plain_match slot_groups type_groups (fun a' e => by cases e; exact ⟨_, (N _ hm).1, rfl⟩) h
theorem get_group {mt P lim : Addr} {x : PySem.Str} {tk : Tok} {li : Int} {sp : Addr} {pl : Sem Bool} {Q : Value × List Value → Shared → Prop} (N : News h₀ L s.heap news) (hm : (mt, matchObj x tk P lim li sp) ∈ news) (h : Q (.builtin "re.Match.group", [.ref mt]) s) :
    wpAny (model prog w) A (getMethod (.ref mt) "group" pl) Q E s :=
  getMethod_builtin (T := "re.Match") ⟨_, (N _ hm).1, rfl⟩ plain_match slot_group type_group (fun a' e => by cases e; exact ⟨_, (N _ hm).1, rfl⟩) h
end

theorem wp_mapM_loop {M : PySem.Model} {A : Around} {E : Value → Shared → Prop} {s : Shared} {α β : Type} {f : α → Sem β} {R : α → β → Prop} {Q : List β → Shared → Prop} : ∀ (l : List α) (acc : List β) (tk : Nat),
    (∀ a ∈ l, ∀ tk (Q' : β → Shared → Prop), (∀ b tk', R a b → Q' b { s with toks := tk' }) → wpAny M A (f a) Q' E { s with toks := tk }) →
    (∀ bs tk', bs.length = l.length → (∀ (i : Nat) (a : α) (b : β), l[i]? = some a → bs[i]? = some b → R a b) → Q (acc.reverse ++ bs) { s with toks := tk' }) → wpAny M A (List.mapM.loop f l acc) Q E { s with toks := tk }
  | [], acc, tk, _, h => by
    unfold List.mapM.loop
    refine wpAny_pure ?_
    have := h [] tk rfl (fun i a b e => by simp at e)
    simpa using this
  | a :: l, acc, tk, hf, h => by
    unfold List.mapM.loop
    refine wpAny_bind (hf a List.mem_cons_self tk _ fun b tk' hR => ?_)
    refine wp_mapM_loop l (b :: acc) tk' (fun a' ha' => hf a' (List.mem_cons_of_mem _ ha')) fun bs tk2 hl hbs => ?_
    have := h (b :: bs) tk2 (by simp [hl]) (fun i a' b' e1 e2 => by
      cases i with
      | zero => simp at e1 e2; subst e1; subst e2; exact hR
      | succ i => simp at e1 e2; exact hbs i a' b' e1 e2)
    simpa using this

theorem spans_get (g : Got) (n k : Nat) (hk : k < n) : ((spanVals g n).toArray.map reRawOf).getD (2 * (k + 1)) (-1) = (match grp g k with | some (b, _) => (b : Int) | none => -1) ∧
    ((spanVals g n).toArray.map reRawOf).getD (2 * (k + 1) + 1) (-1) = (match grp g k with | some (_, e) => (e : Int) | none => -1) := by
  have key : ∀ (n k : Nat), k < n → ((List.range n).flatMap fun k => spanOf (grp g k))[2 * k]? = (spanOf (grp g k))[0]? ∧ ((List.range n).flatMap fun k => spanOf (grp g k))[2 * k + 1]? = (spanOf (grp g k))[1]? := by
    intro n
    induction n with
    | zero => intro k hk; omega
    | succ n ih =>
      intro k hk
      rw [List.range_succ, List.flatMap_append]
      have hlen : ∀ n, ((List.range n).flatMap fun k => spanOf (grp g k)).length = 2 * n := by
        intro n
        induction n with
        | zero => rfl
        | succ n ih2 =>
          rw [List.range_succ, List.flatMap_append, List.length_append, ih2]
          have : (List.flatMap (fun k => spanOf (grp g k)) [n]).length = 2 := by
            simp only [List.flatMap_cons, List.flatMap_nil, List.append_nil]
            cases grp g n <;> rfl
          rw [this]; omega
      by_cases h : k < n
      · rw [List.getElem?_append_left (by rw [hlen]; omega), List.getElem?_append_left (by rw [hlen]; omega)]
        exact ih k h
      · have : k = n := by omega
        subst this
        rw [List.getElem?_append_right (by rw [hlen]; omega), List.getElem?_append_right (by rw [hlen]; omega), hlen]
        simp only [List.flatMap_cons, List.flatMap_nil, List.append_nil]
        rw [show 2 * k - 2 * k = 0 from by omega, show 2 * k + 1 - 2 * k = 1 from by omega]
        exact ⟨rfl, rfl⟩
  obtain ⟨k1, k2⟩ := key n k hk
  have e1 : ∀ j, (spanVals g n)[2 * (k + 1) + j]? = ((List.range n).flatMap fun k => spanOf (grp g k))[2 * k + j]? := by
    intro j
    unfold spanVals
    rw [show 2 * (k + 1) + j = 2 * k + j + 1 + 1 from by omega]
    rfl
  constructor
  · simp only [Array.getD_eq_getD_getElem?, Array.getElem?_map, List.getElem?_toArray]
    have := e1 0
    simp only [Nat.add_zero] at this
    rw [this, k1]
    cases grp g k <;> rfl
  · simp only [Array.getD_eq_getD_getElem?, Array.getElem?_map, List.getElem?_toArray]
    rw [e1 1, k2]
    cases grp g k <;> rfl

theorem spans_size (g : Got) (n : Nat) : ((spanVals g n).toArray.map reRawOf).size = 2 * n + 2 := by
  have hlen : ∀ n, ((List.range n).flatMap fun k => spanOf (grp g k)).length = 2 * n := by
    intro n
    induction n with
    | zero => rfl
    | succ n ih2 =>
      rw [List.range_succ, List.flatMap_append, List.length_append, ih2]
      have : (List.flatMap (fun k => spanOf (grp g k)) [n]).length = 2 := by
        simp only [List.flatMap_cons, List.flatMap_nil, List.append_nil]
        cases grp g n <;> rfl
      rw [this]; omega
  unfold spanVals
  simp [hlen]

section
variable {prog : Program} {w : World} {A : Around} {E : Value → Shared → Prop} {s : Shared} {h₀ : Heap} {L : Addr} {m : Str → Option Value} {news : List (Addr × Obj)}

/-- one group's text -/
theorem wp_groupText {x : PySem.Str} {tk : Tok} {g : Got} {n k : Nat} {fs : Array Value} {tk0 : Nat} {Q : Value → Shared → Prop} (hk : k < n) (hfs : fs.getD 0 .none = .str x tk) (hx : x.cps.size < 65536)
    (h : ∀ tk' t, Q (optVal (txt x (grp g k)) t) { s with toks := tk' }) :
    wpAny (model prog w) A (reGroupText ⟨fs, (spanVals g n).toArray.map reRawOf⟩ (k + 1) .none) Q E { s with toks := tk0 } := by
  obtain ⟨e1, e2⟩ := spans_get g n k hk
  unfold reGroupText
  dsimp only
  rw [e1, e2]
  cases q : grp g k with
  | none =>
    dsimp only
    have := h tk0 0
    rw [q] at this
    exact wpAny_pure this
  | some be =>
    obtain ⟨b, e⟩ := be
    dsimp only
    have : (decide ((b : Int) < 0) || decide ((e : Int) < 0)) = false := by simp
    rw [this, if_neg (by decide)]
    have h' := h (tk0 + 1) tk0
    rw [q] at h'
    rw [hfs]
    refine wpAny_bind (wpAny_pure (a := (x.cps, 0)) ?_)
    unfold reSlice
    dsimp only
    rw [if_pos (show ((0 : Nat) == 0) = true from rfl)]
    refine wpAny_mkStr (s := { s with toks := tk0 }) h' ?_
    show (x.cps.extract _ _).size ≤ sizeLine
    rw [sizeLine_eq, Array.size_extract]
    omega

def groupVals (x : PySem.Str) (g : Got) (n : Nat) (tks : Nat → Tok) : List Value := (List.range n).map fun k => optVal (txt x (grp g k)) (tks k)

theorem call_groups {mt P lim : Addr} {x : PySem.Str} {tk : Tok} {li : Int} {sp : Addr} {g : Got} {n : Nat} {Q : Value → Shared → Prop} (F : Fr h₀ L s.heap m) (N : News h₀ L s.heap news) (hm : (mt, matchObj x tk P lim li sp) ∈ news) (hs : (sp, tupOf (spanVals g n)) ∈ news)
    (hx : x.cps.size < 65536) (hn : n ≤ 100)
    (h : ∀ tp tks h' tk', Fr h₀ L h' m → News h₀ L h' ((tp, tupOf (groupVals x g n tks)) :: news) → (∀ p ∈ news, p.1 < tp) → Q (.ref tp) { s with heap := h', toks := tk' }) :
    wpAny (model prog w) A (call (.builtin "re.Match.groups") [.ref mt]) Q E s := by
  have hT : s.TypeIs (.ref mt) "re.Match" := ⟨_, (N _ hm).1, rfl⟩
  refine wpAny_call_entry slot_groups hT entry_groups ?_ (args_groups _)
  unfold «re.Match.groups» reWithDefault
  dsimp only
  have e0 : reNamed "re.Match.groups" "groups" ["default"] 0 [] [] = pure [none] := rfl
  rw [e0]
  refine wpAny_bind (wpAny_bind (wpAny_pure ?_))
  dsimp only
  unfold reFound
  refine wpAny_bind (wpAny_bind (wpAny_fieldsOf (N _ hm).1 rfl ?_))
  refine wpAny_bind ?_
  refine wp_rawItems (a := sp) (N _ hs).1 rfl ?_
  refine wpAny_pure (wpAny_pure ?_)
  dsimp only
  rw [spans_size, show (2 * n + 2) / 2 - 1 = n from by omega]
  unfold List.mapM
  refine wpAny_bind ?_
  refine wp_mapM_loop (s := s) (R := fun k v => ∃ t, v = optVal (txt x (grp g k)) t) (List.range n) [] s.toks ?_ ?_
  · intro k hk tk0 Q' hQ'
    exact wp_groupText (List.mem_range.mp hk) rfl hx fun tk' t => hQ' _ _ ⟨t, rfl⟩
  · intro bs tk' hl hR
    have hex : ∃ tks : Nat → Tok, bs = groupVals x g n tks := by
      have : ∀ i, i < n → ∃ t, bs[i]? = some (optVal (txt x (grp g i)) t) := by
        intro i hi
        have hl2 : i < bs.length := by rw [hl]; simpa using hi
        obtain ⟨t, ht⟩ := hR i i bs[i] (by simp [hi]) (by simp [hl2])
        exact ⟨t, by rw [List.getElem?_eq_getElem hl2, ht]⟩
      refine ⟨fun i => if hi : i < n then (this i hi).choose else 0, ?_⟩
      apply List.ext_getElem?
      intro i
      unfold groupVals
      by_cases hi : i < n
      · rw [List.getElem?_map, List.getElem?_range hi, (this i hi).choose_spec]
        simp [hi]
      · rw [List.getElem?_eq_none (by rw [hl]; simpa using hi), List.getElem?_eq_none (by simpa using hi)]
    obtain ⟨tks, rfl⟩ := hex
    simp only [List.reverse_nil, List.nil_append]
    refine wpAny_bind (wpAny_newTuple ?_ ?_)
    · refine wpAny_pure ⟨_, rfl, ?_⟩
      exact h _ tks _ tk' (F.push _) (News.push F N _) (fun p hp => Heap.lt_size (N p hp).1)
    · rw [hl, sizeLine_eq]; simp; omega
end
end Mine
end

section
open PySem PySem.W PyProof.Rows
set_option Elab.async false
set_option linter.unusedVariables false
set_option maxRecDepth 100000
namespace Mine
open PySem.Builtin PySem.Builtin._datetime

theorem mro_date : mroOf (.type "datetime.date") = pure [.type "datetime.date", .type "object"] := by rw [mroOf_type]; kernel_rfl
theorem lookup_date_new : typeLookup (.type "datetime.date") "__new__" = pure (some (.builtin "datetime.date.__new__")) := by rw [typeLookup_type, builtinLookup_eq_fast]; kernel_rfl
theorem sub_date_date : isSubtype (.type "datetime.date") (.type "datetime.date") = pure true := by rw [isSubtype_type]; kernel_rfl
theorem sub_date_dt : isSubtype (.type "datetime.date") (.type "datetime.datetime") = pure false := by rw [isSubtype_type]; kernel_rfl
theorem slot_date_init : Slot "datetime.date" "__init__" "object.__init__" :=
  .of (owner := "object") (n := "__init__") (by rw [typeLookup_type, builtinLookup_eq_fast]; kernel_rfl) (by decide +kernel) (by decide +kernel) (by decide +kernel)
    (by first | exact .inl (by decide +kernel) | exact .inr (by decide +kernel)) (by rw [isSubtype_type]; kernel_rfl)
theorem called_date : TypeCalled "datetime.date" "datetime.date.__new__" "object.__init__" :=
  ⟨by decide +kernel, by decide +kernel, ⟨_, _, mro_date⟩, madeBy_type mro_date lookup_date_new (by decide +kernel), by decide +kernel, sub_date_date, slot_date_init⟩
theorem typeCall_date (a b c : Value) : checkTypeCall "datetime.date" ⟨[a, b, c], []⟩ = pure () := by kernel_rfl
theorem newCall_date (a b c : Value) : checkBuiltinCall "datetime.date.__new__" ⟨[.type "datetime.date", a, b, c], []⟩ = pure () := by kernel_rfl
theorem entry_date_new : entryFor table "datetime.date.__new__" = some Builtin.«datetime.date.__new__» := entryFor_of_tree (by kernel_rfl)
theorem init_date (o a b c : Value) : argsOk "object.__init__" ⟨[o, a, b, c], []⟩ := by unfold argsOk; kernel_rfl
theorem slot_toordinal : Slot "datetime.date" "toordinal" "datetime.date.toordinal" :=
  .of (owner := "datetime.date") (n := "toordinal") (by rw [typeLookup_type, builtinLookup_eq_fast]; kernel_rfl) (by decide +kernel) (by decide +kernel) (by decide +kernel)
    (by first | exact .inl (by decide +kernel) | exact .inr (by decide +kernel)) (by rw [isSubtype_type]; kernel_rfl)
theorem type_toordinal : typeOf (.builtin "datetime.date.toordinal") = pure (.type "method_descriptor") := by show builtinType _ = _; rw [builtinType_eq_fast]; kernel_rfl
theorem entry_toordinal : entryFor table "datetime.date.toordinal" = some Builtin.«datetime.date.toordinal» := entryFor_of_tree (by kernel_rfl)
theorem args_toordinal (a : Value) : argsOk "datetime.date.toordinal" ⟨[a], []⟩ := by unfold argsOk; kernel_rfl
theorem plain_date : PlainAttrs "datetime.date" :=
  ⟨⟨"object.__getattribute__", by rw [typeLookup_type, builtinLookup_eq_fast]; kernel_rfl, by decide +kernel⟩, by rw [typeLookup_type, builtinLookup_eq_fast]; kernel_rfl⟩

abbrev dateObj (y m d : Int) : Obj := { cls := .type "datetime.date", data := .fields #[rawInt y, rawInt m, rawInt d] }
def dateSpec (y m d : Int) : PySem.Spec := fun _ R s => R (.ok (.ret (.ref s.heap.objs.size))) { s with heap := s.heap.push (dateObj y m d) }

theorem cint_int {y : Int} {a : Tok} (h1 : -2147483648 ≤ y) (h2 : y < 2147483648) : dtCInt (.int y a) = pure y := by
  have e : asIndex (.int y a) = pure y := rfl
  unfold dtCInt
  rw [e]
  show (if (decide (y ≥ 2 ^ 63) || decide (y < -(2 ^ 63 : Int))) = true then _ else _) = _
  rw [if_neg (by simp; omega)]
  show (if y ≥ 2 ^ 31 then _ else _) = _
  rw [if_neg (by omega)]
  show (if y < -(2 ^ 31 : Int) then _ else _) = _
  rw [if_neg (by omega)]

theorem bind_ints {y m d : Int} {a b c : Tok} (hy : -2147483648 ≤ y ∧ y < 2147483648) (hm : -2147483648 ≤ m ∧ m < 2147483648) (hd : -2147483648 ≤ d ∧ d < 2147483648) :
    dtBindInts "datetime.date.__new__" "function" ["year", "month", "day"] 3 [.int y a, .int m b, .int d c] [] = pure [some y, some m, some d] := by
  have e1 : dtCInt (.int y a) = pure y := cint_int hy.1 hy.2
  have e2 : dtCInt (.int m b) = pure m := cint_int hm.1 hm.2
  have e3 : dtCInt (.int d c) = pure d := cint_int hd.1 hd.2
  unfold dtBindInts
  simp only [List.length_cons, List.length_nil, Nat.add_zero, Nat.zero_add, Nat.reduceAdd, gt_iff_lt, Nat.lt_irrefl, if_false, List.zipIdx_cons, List.zipIdx_nil, List.forIn_cons, List.forIn_nil]
  have e4 : dtBind "datetime.date.__new__" "function" ["year", "month", "day"] 0 [.int y a, .int m b, .int d c] [] = pure [some (.int y a), some (.int m b), some (.int d c)] := rfl
  have o : ∀ (v : Value) (x : Option Value), (some v <|> x) = some v := fun _ _ => rfl
  simp only [List.getElem?_cons_zero, List.getElem?_cons_succ, o, Bool.false_eq_true, if_false, e1, e2, e3, e4, pure_bind]
  rfl

theorem newClass_date (a b c : Value) : dtNewClass "datetime.date" ⟨[.type "datetime.date", a, b, c], []⟩ = pure (.type "datetime.date", [a, b, c]) := by
  have e1 : isType (.type "datetime.date") = pure true := rfl
  unfold dtNewClass
  simp only [e1, pure_bind, sub_date_date, Bool.not_true, Bool.false_eq_true, if_false]

theorem check_date {y m : Int} (hy : 1 ≤ y ∧ y ≤ 9999) (hm : 1 ≤ m ∧ m ≤ 12) : checkDate y m 1 = pure () := by
  have hd : ¬ (1 > daysInMonth y m) := by
    unfold daysInMonth
    split
    · omega
    · have : m = 1 ∨ m = 2 ∨ m = 3 ∨ m = 4 ∨ m = 5 ∨ m = 6 ∨ m = 7 ∨ m = 8 ∨ m = 9 ∨ m = 10 ∨ m = 11 ∨ m = 12 := by omega
      rcases this with h | h | h | h | h | h | h | h | h | h | h | h <;> subst h <;> decide
  unfold checkDate
  have h1 : (decide (y < 1) || decide (y > 9999)) = false := by simp; omega
  have h2 : (decide (m < 1) || decide (m > 12)) = false := by simp; omega
  have h3 : (decide ((1 : Int) < 1) || decide (1 > daysInMonth y m)) = false := by simp; omega
  rw [h1, h2, h3]
  rfl

theorem meets_date {y m : Int} {a b c : Tok} (hy : 1 ≤ y ∧ y ≤ 9999) (hm : 1 ≤ m ∧ m ≤ 12) : Meets (Builtin.«datetime.date.__new__» ⟨[.type "datetime.date", .int y a, .int m b, .int 1 c], []⟩) (dateSpec y m 1) := by
  intro prog w A R s h
  unfold «datetime.date.__new__»
  rw [newClass_date]
  refine wpAny_bind (wpAny_pure ?_)
  dsimp only
  refine wpAny_bind (wpAny_of_eq sub_date_dt ?_)
  rw [if_neg (by decide)]
  rw [bind_ints (y := y) (m := m) (d := 1) (a := a) (b := b) (c := c) (by omega) (by omega) (by omega)]
  refine wpAny_bind (wpAny_pure ?_)
  dsimp only
  unfold newDateRaw
  rw [check_date hy hm, pure_bind]
  refine wpAny_bind (wpAny_newObj_type (dict := none) ?_ (by show 3 ≤ sizeLine + 2; rw [sizeLine_eq]; decide))
  exact wpAny_pure h

section
variable {prog : Program} {w : World} {A : Around} {E : Value → Shared → Prop} {s : Shared} {h₀ : Heap} {L : Addr} {m : Str → Option Value} {news : List (Addr × Obj)}

theorem call_date {y mo : Int} {a b c : Tok} {Q : Value → Shared → Prop} (F : Fr h₀ L s.heap m) (N : News h₀ L s.heap news) (hy : 1 ≤ y ∧ y ≤ 9999) (hm : 1 ≤ mo ∧ mo ≤ 12)
    (h : ∀ D h', Fr h₀ L h' m → News h₀ L h' ((D, dateObj y mo 1) :: news) → (∀ p ∈ news, p.1 < D) → Q (.ref D) { s with heap := h' }) :
    wpAny (model prog w) A (call (.type "datetime.date") [.int y a, .int mo b, .int 1 c]) Q E s :=
  callType_new called_date (by decide) (typeCall_date _ _ _) (newCall_date _ _ _) (fun obj => init_date obj _ _ _) entry_date_new (meets_date hy hm)
    ⟨⟨_, Heap.get?_push_size _ rfl, rfl⟩, h _ _ (F.push _) (News.push F N _) (fun p hp => Heap.lt_size (N p hp).1)⟩

theorem get_toordinal {D : Addr} {y mo d : Int} {pl : Sem Bool} {Q : Value × List Value → Shared → Prop} (N : News h₀ L s.heap news) (hm : (D, dateObj y mo d) ∈ news) (h : Q (.builtin "datetime.date.toordinal", [.ref D]) s) :
    wpAny (model prog w) A (getMethod (.ref D) "toordinal" pl) Q E s :=
  getMethod_builtin (T := "datetime.date") ⟨_, (N _ hm).1, rfl⟩ plain_date slot_toordinal type_toordinal (fun a' e => by cases e; exact ⟨_, (N _ hm).1, rfl⟩) h

theorem call_toordinal {D : Addr} {y mo d : Int} {Q : Value → Shared → Prop} (N : News h₀ L s.heap news) (hm : (D, dateObj y mo d) ∈ news) (h : Q (.int (toOrdinal y mo d) s.toks) { s with toks := s.toks + 1 }) :
    wpAny (model prog w) A (call (.builtin "datetime.date.toordinal") [.ref D]) Q E s := by
  have hT : s.TypeIs (.ref D) "datetime.date" := ⟨_, (N _ hm).1, rfl⟩
  refine wpAny_call_entry slot_toordinal hT entry_toordinal ?_ (args_toordinal _)
  show wpAny _ _ (do
      let (y, m, d) ← dateParts (← selfOnly s!"date.toordinal" ⟨[.ref D], []⟩)
      retInt (toOrdinal y m d)) _ _ _
  have e0 : selfOnly s!"date.toordinal" ⟨[.ref D], []⟩ = pure (.ref D) := rfl
  rw [e0]
  refine wpAny_bind (wpAny_pure ?_)
  unfold dateParts dateParts?
  refine wpAny_bind (wpAny_bind (wpAny_bind (wpAny_isInstance hT sub_date_date ?_)))
  simp only [Bool.not_true, Bool.false_eq_true, if_false]
  refine wpAny_bind (wpAny_fieldsOf (N _ hm).1 rfl ?_)
  refine wpAny_pure (wpAny_pure ?_)
  exact wpAny_bind (wpAny_mkInt (wpAny_pure ⟨_, rfl, h⟩))
end
end Mine
end

section
open PySem PySem.W PyProof.Rows
set_option Elab.async false
set_option linter.unusedVariables false
set_option maxRecDepth 100000
namespace Mine
open PySem.Builtin

section
variable {prog : Program} {w : World} {A : Around} {E : Value → Shared → Prop} {s : Shared} {h₀ : Heap} {L : Addr} {m : Str → Option Value} {news : List (Addr × Obj)}

theorem adjust_to (a n : Nat) (ha : a ≤ n) : Builtin.Slice.sliceAdjust none (some (a : Int)) 1 (n : Int) = (0, (a : Int)) := by
  unfold Builtin.Slice.sliceAdjust
  have h1 : ¬ ((1 : Int) < 0) := by omega
  have h2 : ¬ ((a : Int) < 0) := by omega
  simp only [h1, h2, if_false]
  congr 1
  omega
theorem places_to (a : Nat) : Builtin.Slice.slicePlaces 0 (a : Int) 1 = a := by
  unfold Builtin.Slice.slicePlaces
  have h1 : (1 : Int) > 0 := by omega
  simp only [h1, if_true, Int.ediv_one]
  split <;> omega

theorem sliceApplied_to {sl : Addr} {a n : Nat} {u : Tok} {Q : Int × Int × Nat → Shared → Prop} (hs : s.heap.IsSliceOf sl .none (.int a u) .none) (ha : a ≤ n) (h : Q (0, 1, a) s) :
    wpAny (model prog w) A (Builtin.Slice.sliceApplied (.ref sl) (pure (n : Int))) Q E s := by
  obtain ⟨os, hos, hcs, hds⟩ := id hs
  unfold Builtin.Slice.sliceApplied Builtin.Slice.sliceFields
  refine wpAny_bind (wpAny_bind (wpAny_field hos hds (x := .none) rfl (wpAny_bind (wpAny_field hos hds (x := .int a u) rfl (wpAny_bind (wpAny_field hos hds (x := .none) rfl (wpAny_pure ?_)))))))
  refine wpAny_bind (slicePart_none ?_)
  show wpAny _ _ (if ((1 : Int) == 0) = true then _ else _) _ _ s
  rw [if_neg (by decide)]
  refine wpAny_bind (slicePart_none (wpAny_bind (slicePart_int (wpAny_bind (wpAny_pure ?_)))))
  show wpAny _ _ (match Builtin.Slice.sliceAdjust none (some (a : Int)) 1 (n : Int) with | (lo, hi) => pure (lo, (1 : Int), Builtin.Slice.slicePlaces lo hi 1)) _ _ s
  rw [adjust_to a n ha]
  show wpAny _ _ (pure ((0 : Int), (1 : Int), Builtin.Slice.slicePlaces 0 (a : Int) 1)) _ _ s
  rw [places_to a]
  exact wpAny_pure h

theorem pick_to (xs : Array Value) (a : Nat) (_ha : a ≤ xs.size) : ((List.range a).filterMap fun (k : Nat) => xs[((0 : Int) + (k : Int) * 1).toNat]?).toArray = (xs.toList.take a).toArray := by
  have e : (fun (k : Nat) => xs[((0 : Int) + (k : Int) * 1).toNat]?) = fun k => xs[0 + k]? := by
    funext k
    have : ((0 : Int) + (k : Int) * 1).toNat = 0 + k := by omega
    rw [this]
  rw [e]
  have := pick_run xs 0 a
  rw [List.filterMap_map] at this
  have e2 : ((fun x => xs[x]?) ∘ fun x => 0 + x) = fun k => xs[0 + k]? := rfl
  rw [e2] at this
  rw [this]
  simp

theorem getItem_tuple_to {t sl : Addr} {items : Array Value} {a : Nat} {u : Tok} {Q : Value → Shared → Prop} (ht : IsTup s.heap t items) (hs : s.heap.IsSliceOf sl .none (.int a u) .none) (ha : a < items.size)
    (h : Q (.ref s.heap.objs.size) { s with heap := s.heap.push { cls := .type "tuple", data := .seq (items.toList.take a).toArray } })
    (hsz : items.size ≤ sizeLine) : wpAny (model prog w) A (getItem (.ref t) (.ref sl)) Q E s := by
  have hdrop : sizeOk (.seq (items.toList.take a).toArray) := by
    show (items.toList.take a).toArray.size ≤ sizeLine
    rw [List.size_toArray, List.length_take, Array.length_toList]
    omega
  obtain ⟨os, hos, hcs, hds⟩ := id hs
  have hTs : s.TypeIs (.ref sl) "slice" := ⟨os, hos, hcs⟩
  unfold getItem
  try with_reducible refine wpAny_holding ?_
  first | refine wpAny_bind (wpAny_pure ?_) | skip
  refine wpAny_bind (wpAny_sequenceKey ht.typeIs (by decide) ?_)
  refine wpAny_bind (wpAny_callSpecial?_slot (name := Str.ofString "__getitem__") ht.typeIs slot_tuple_getitem
    (wpAny_call_entry slot_tuple_getitem ht.typeIs entry_tuple_getitem ?_ (args_tuple_getitem _ _)))
  show wpAny _ _ (Builtin.Tuple.tupleItemsOf (.ref t) >>= _) _ _ s
  refine wpAny_bind (tupleItemsOf_ ht ?_)
  refine wpAny_bind (wpAny_typeOf hTs ?_)
  rw [if_pos (by decide)]
  refine wpAny_bind (sliceApplied_to hs (Nat.le_of_lt ha) ?_)
  have hno : ¬ (((0 : Int) == 0 && (1 : Int) == 1 && a == items.size) = true) := by
    have : (a == items.size) = false := by rw [beq_eq_false_iff_ne]; omega
    rw [this]; simp
  show wpAny _ _ (if ((0 : Int) == 0 && (1 : Int) == 1 && a == items.size) = true then _ else _) _ _ s
  rw [if_neg hno, pick_to items a (Nat.le_of_lt ha)]
  first
    | exact wpAny_bind (m := Builtin.Tuple.tupleExact _) (wpAny_newObj_type (wpAny_pure ⟨_, rfl, wpAny_pure h⟩) hdrop)
    | exact wpAny_bind (m := Builtin.Tuple.tupleExact _) (wpAny_newObj_type (wpAny_bind (wpAny_pure (wpAny_pure ⟨_, rfl, wpAny_pure h⟩))) hdrop)
    | exact wpAny_bind (wpAny_bind (m := Builtin.Tuple.tupleExact _) (wpAny_newObj_type (wpAny_pure (wpAny_pure ⟨_, rfl, wpAny_pure h⟩)) hdrop))
    | exact wpAny_bind (wpAny_bind (m := Builtin.Tuple.tupleExact _) (wpAny_newObj_type (wpAny_pure ⟨_, rfl, wpAny_pure h⟩) hdrop))

/-- t[:a] of a tuple that is longer -/
theorem slice_tuple_to {value slice : Expr} {t : Addr} {vs us : List Value} {a : Nat} {u : Tok} {Q : Value → Shared → Prop}
    (F : Fr h₀ L s.heap m) (N : News h₀ L s.heap news) (hm : (t, tupOf vs) ∈ news) (e : vs.take a = us) (ha : a < vs.length)
    (h : ∀ D h', Fr h₀ L h' m → News h₀ L h' ((D, tupOf us) :: news) → (∀ p ∈ news, p.1 < D) → Q (.ref D) { s with heap := h' })
    (hs : subscripted slice false (.ref t) (.ref s.heap.objs.size) = operate [.ref s.heap.objs.size, .ref t] (getItem (.ref t) (.ref s.heap.objs.size)))
    (hg : ∀ r, letTemporaryGo value (.ref t) r = pure ())
    (hsz : vs.length ≤ 1000) :
    wpAny (model prog w) A (subscriptTail value slice (.ref t) (.ref s.heap.objs.size)) Q E { s with heap := s.heap.push { cls := .type "slice", data := .fields #[.none, .int a u, .none] } } := by
  have ht : IsTup s.heap t vs.toArray := N.isTup hm
  have ht' : IsTup (s.heap.push { cls := .type "slice", data := .fields #[.none, .int a u, .none] }) t vs.toArray := ht.keeps fun _ _ e => Heap.get?_push_of_some _ e
  refine subscriptTail_ops (s := { s with heap := s.heap.push { cls := .type "slice", data := .fields #[.none, .int a u, .none] } }) ht'.typeIs slot_tuple_getitem.lookup
    (getItem_tuple_to ht' (Heap.IsSliceOf.new ..) (by rw [List.size_toArray]; exact ha) ?_ (by rw [List.size_toArray, sizeLine_eq]; omega)) hs hg
  have N1 := News.push (F.push { cls := .type "slice", data := .fields #[.none, .int a u, .none] }) (N.grown fun _ _ e => Heap.get?_push_of_some _ e) (tupOf us)
  rw [Heap.size_push] at N1
  show Q (.ref (s.heap.push _).objs.size) _
  rw [Heap.size_push]
  have e2 : (vs.toArray.toList.take a) = us := e
  rw [e2]
  exact h _ _ ((F.push _).push _) N1 (fun p hp => Nat.lt_succ_of_lt (Heap.lt_size (N p hp).1))
end
end Mine
end

section
open PySem PySem.W PyProof.Rows
set_option Elab.async false
set_option linter.unusedVariables false
set_option maxRecDepth 100000
namespace Mine
open PySem.Builtin PySem.Builtin.Re

theorem match_nobool : typeLookup (.type "re.Match") "__bool__" = pure none := by rw [typeLookup_type, builtinLookup_eq_fast]; kernel_rfl
theorem match_nolen : typeLookup (.type "re.Match") "__len__" = pure none := by rw [typeLookup_type, builtinLookup_eq_fast]; kernel_rfl

section
variable {prog : Program} {w : World} {A : Around} {E : Value → Shared → Prop} {s : Shared} {h₀ : Heap} {L : Addr} {m : Str → Option Value} {news : List (Addr × Obj)}

theorem truthy_match {mt P lim : Addr} {x : PySem.Str} {tk : Tok} {li : Int} {sp : Addr} {Q : Bool → Shared → Prop} (N : News h₀ L s.heap news) (hm : (mt, matchObj x tk P lim li sp) ∈ news) (h : Q true s) : wpAny (model prog w) A (truthy (.ref mt)) Q E s := by
  have hT : s.TypeIs (.ref mt) "re.Match" := ⟨_, (N _ hm).1, rfl⟩
  unfold truthy
  refine wpAny_bind (wpAny_callSpecial?_none hT match_nobool ?_)
  refine wpAny_bind (wpAny_specialOf hT match_nolen ?_)
  exact wpAny_pure h

theorem truthy_str1 {x : PySem.Str} {t : Tok} {Q : Bool → Shared → Prop} (h1 : x.cps.size ≠ 0) (h2 : x.cps.size < 65536) (h : ∀ k, Q true { s with toks := k }) : wpAny (model prog w) A (PySem.truthy (.str x t)) Q E s :=
  KXt.truthy (bne_iff_ne.mpr (by show (x.cps.size : Int) ≠ 0; omega)) (by show x.cps.size ≤ _; omega) h

theorem call_group {mt P lim : Addr} {x : PySem.Str} {tk : Tok} {li : Int} {sp : Addr} {g : Got} {n k : Nat} {t : Tok} {Q : Value → Shared → Prop} {o : Option PySem.Str} (N : News h₀ L s.heap news) (hm : (mt, matchObj x tk P lim li sp) ∈ news) (hs : (sp, tupOf (spanVals g n)) ∈ news)
    (hx : x.cps.size < 65536) (hk : k < n) (ho : txt x (grp g k) = o) (h : ∀ tk' t, Q (optVal o t) { s with toks := tk' }) :
    wpAny (model prog w) A (call (.builtin "re.Match.group") [.ref mt, .int ((k + 1 : Nat) : Int) t]) Q E s := by
  have hT : s.TypeIs (.ref mt) "re.Match" := ⟨_, (N _ hm).1, rfl⟩
  refine wpAny_call_entry slot_group hT entry_group ?_ (args_group _ _)
  unfold «re.Match.group»
  have e0 : noKeywords "Match.group" ⟨[.ref mt, .int ((k + 1 : Nat) : Int) t], []⟩ = pure () := rfl
  rw [e0]
  refine wpAny_bind (wpAny_pure ?_)
  dsimp only
  unfold reFound
  refine wpAny_bind (wpAny_bind (wpAny_fieldsOf (N _ hm).1 rfl ?_))
  refine wpAny_bind ?_
  refine wp_rawItems (a := sp) (N _ hs).1 rfl ?_
  refine wpAny_pure ?_
  unfold reGroupNumber
  have e1 : asInt? (.int ((k + 1 : Nat) : Int) t) = pure (some ((k + 1 : Nat) : Int)) := rfl
  have e2 : asIndex (.int ((k + 1 : Nat) : Int) t) = pure ((k + 1 : Nat) : Int) := rfl
  dsimp only
  rw [e1, e2]
  refine wpAny_bind (wpAny_bind (wpAny_pure ?_))
  rw [if_pos (show (some ((k + 1 : Nat) : Int)).isSome = true from rfl)]
  refine wpAny_bind (wpAny_pure ?_)
  rw [if_neg (by rw [spans_size]; simp; omega)]
  refine wpAny_pure ?_
  refine wpAny_bind ?_
  have e3 : ((k + 1 : Nat) : Int).toNat = k + 1 := by omega
  rw [e3]
  exact wp_groupText (s := s) (tk0 := s.toks) hk rfl hx (fun tk' t => wpAny_pure ⟨_, rfl, by rw [ho]; exact h tk' t⟩)

def utcName (x : PySem.Str) : Bool := (x == ("GMT" : PySem.Str)) || ((x == ("UTC" : PySem.Str)) || ((x == ("UT" : PySem.Str)) || x == ("Z" : PySem.Str)))

theorem strBeq_comm (a b : PySem.Str) : (a == b) = (b == a) := Bool.eq_iff_iff.mpr ⟨fun h => by rw [eq_of_beq h]; exact beq_self_eq_true _, fun h => by rw [eq_of_beq h]; exact beq_self_eq_true _⟩

/-- membership in the table of the names of universal time -/
theorem in_utc {a : Addr} {K : Frag} {x : PySem.Str} {t t1 t2 t3 t4 : Tok} {n : Nat} {b : Bool} {Q : Value → Shared → Prop} (F : Fr h₀ L s.heap m) (X₀ : K.In h₀)
    (hl : K.lookup a = some ⟨.type "dict", none, .dict #[⟨PyData.keyHash w.params "GMT", .str "GMT" t1, .none⟩, ⟨PyData.keyHash w.params "UTC", .str "UTC" t2, .none⟩, ⟨PyData.keyHash w.params "UT", .str "UT" t3, .none⟩, ⟨PyData.keyHash w.params "Z", .str "Z" t4, .none⟩] n, #[]⟩)
    (lo : (a == sysModules) = false) (hb : utcName x = b) (h : Q (.bool b) { s with toks := s.toks + 1 }) : wpAny (model prog w) A (compareOp .In (.str x t) (.ref a)) Q E s := by
  refine wpAny_in_of (strKind_is prog w x t) lo (mapOf_K (prog := prog) (X₀.keeps F.keep) hl ⟨⟨_, _, rfl, rfl⟩, ⟨_, _, rfl, rfl⟩, ⟨_, _, rfl, rfl⟩, ⟨_, _, rfl, rfl⟩, trivial⟩) ?_
  have e : (findBy Value.isStrOf (#[⟨PyData.keyHash w.params "GMT", .str "GMT" t1, .none⟩, ⟨PyData.keyHash w.params "UTC", .str "UTC" t2, .none⟩, ⟨PyData.keyHash w.params "UT", .str "UT" t3, .none⟩, ⟨PyData.keyHash w.params "Z", .str "Z" t4, .none⟩] : Array DictEntry) x).isSome = b := by
    rw [← hb]
    have is : ∀ (y : PySem.Str) (u : Tok), Value.isStrOf x (.str y u) = (x == y) := fun y u => by unfold Value.isStrOf; first | rfl | exact strBeq_comm _ _
    unfold findBy utcName
    rw [Option.isSome_map]
    simp only [List.find?_toArray, List.find?_cons, List.find?_nil, is]
    cases (x == ("GMT" : PySem.Str)) <;> cases (x == ("UTC" : PySem.Str)) <;> cases (x == ("UT" : PySem.Str)) <;> cases (x == ("Z" : PySem.Str)) <;> rfl
  rw [e]
  exact h
end
end Mine
end

section
open PySem PySem.W PyProof.Rows
set_option Elab.async false
set_option linter.unusedVariables false
set_option maxRecDepth 100000
namespace Mine
open PySem.Builtin PySem.Builtin.Re PySem.Sre

theorem isPat_K {K : Frag} {h : Heap} {P cd : Addr} {code : Array Nat} {groups : Nat} {pat : PySem.Str} {t1 : Tok} {fl : Int} {t2 : Tok} {items : Array Value} (X : K.In h) (h1 : K.lookup P = some (patObj pat t1 fl t2 groups cd))
    (h2 : K.lookup cd = some { cls := .type "tuple", data := .seq items }) (e : items.toList.map (fun v => (reRawOf v).toNat) = code.toList) : IsPat h P code groups :=
  ⟨⟨pat, t1, fl, t2, cd, items, X _ _ h1, X _ _ h2, by
    apply Array.ext'
    rw [← e]
    simp⟩⟩

section
variable {prog : Program} {w : World} {A : Around} {E : Value → Shared → Prop} {s : Shared} {h₀ : Heap} {L : Addr} {m : Str → Option Value} {news : List (Addr × Obj)}

theorem call_search_none {P : Addr} {x : PySem.Str} {tk : Tok} {code : Array Nat} {groups c sz : Nat} {r : Option Got} {Q : Value → Shared → Prop} (F : Fr h₀ L s.heap m) (N : News h₀ L s.heap news) (hp : IsPat s.heap P code groups) (hr : r = none) (hx : x.cps.size < 65536)
    (hf : Found c r sz (forSearch code x.cps groups 0 x.cps.size false)) (hc : c < 2 ^ 60) (hg : groups ≤ 100) (h : Q .none s) : wpAny (model prog w) A (call (.builtin "re.Pattern.search") [.ref P, .str x tk]) Q E s := by
  subst hr
  exact call_search F N hp hx hf hc hg (fun g e => by cases e) (fun _ => h) (fun g e => by cases e)

theorem call_search_some {P : Addr} {x : PySem.Str} {tk : Tok} {code : Array Nat} {groups c sz : Nat} {r : Option Got} {g : Got} {Q : Value → Shared → Prop} (F : Fr h₀ L s.heap m) (N : News h₀ L s.heap news) (hp : IsPat s.heap P code groups) (hr : r = some g) (hx : x.cps.size < 65536)
    (hf : Found c r sz (forSearch code x.cps groups 0 x.cps.size false)) (hc : c < 2 ^ 60) (hg : groups ≤ 100) (hok : ∀ k b e, grp g k = some (b, e) → b ≤ e)
    (h : ∀ mt sp li h', Fr h₀ L h' m → News h₀ L h' ((mt, matchObj x tk P x.cps.size li sp) :: (sp, tupOf (spanVals g groups)) :: news) → (∀ p ∈ news, p.1 < sp) → sp < mt → Q (.ref mt) { s with heap := h' }) :
    wpAny (model prog w) A (call (.builtin "re.Pattern.search") [.ref P, .str x tk]) Q E s := by
  subst hr
  exact call_search F N hp hx hf hc hg (fun g' e => by cases e; exact hok) (fun e => by cases e) (fun g' e => by cases e; exact h)

theorem call_group_some {mt P lim : Addr} {x y : PySem.Str} {tk : Tok} {li : Int} {sp : Addr} {g : Got} {n k : Nat} {t : Tok} {i : Int} {Q : Value → Shared → Prop} (N : News h₀ L s.heap news) (hm : (mt, matchObj x tk P lim li sp) ∈ news) (hs : (sp, tupOf (spanVals g n)) ∈ news)
    (hi : i = ((k + 1 : Nat) : Int)) (hx : x.cps.size < 65536) (hk : k < n) (ho : txt x (grp g k) = some y) (h : ∀ tk' t, Q (.str y t) { s with toks := tk' }) :
    wpAny (model prog w) A (call (.builtin "re.Match.group") [.ref mt, .int i t]) Q E s := by subst hi; exact call_group N hm hs hx hk ho h
theorem call_group_none {mt P lim : Addr} {x : PySem.Str} {tk : Tok} {li : Int} {sp : Addr} {g : Got} {n k : Nat} {t : Tok} {i : Int} {Q : Value → Shared → Prop} (N : News h₀ L s.heap news) (hm : (mt, matchObj x tk P lim li sp) ∈ news) (hs : (sp, tupOf (spanVals g n)) ∈ news)
    (hi : i = ((k + 1 : Nat) : Int)) (hx : x.cps.size < 65536) (hk : k < n) (ho : txt x (grp g k) = none) (h : ∀ tk', Q .none { s with toks := tk' }) :
    wpAny (model prog w) A (call (.builtin "re.Match.group") [.ref mt, .int i t]) Q E s := by subst hi; exact call_group N hm hs hx hk ho (fun tk' t => h tk')
end
end Mine
end

section
open PySem PySem.W PyProof.Rows
set_option Elab.async false
set_option linter.unusedVariables false
set_option maxRecDepth 100000
namespace Mine
open PySem.Calls

section
variable {prog : Program} {w : World} {A : Around} {s : Shared} {h₀ : Heap} {L : Addr} {m : Str → Option Value} {news : List (Addr × Obj)} {K : Frag} {p : Program} {loose : List Str} {mean : ExcName → Option Value} {mg mb : Str → Option Value}

/-- into a def of the text's: the caller's frame goes onto the ledger -/
theorem code_c {R : Result → Shared → Prop} {name qual : Str} {params : Arguments} {body : List Stmt} {scope : Scope} {dV kV doc pm cdv ct oc : Value} {an od : Option Addr} {osl : Array (Option Value)} {f : Addr} {args : Args} {binds : List (Str × Value)}
    (F : Fr h₀ L s.heap m) (X₀ : K.In h₀) (N : News h₀ L s.heap news) (T : Top p loose mean mg mb h₀)
    (ho : K.lookup f = some ⟨oc, od, .func (fnOf name qual params body scope dV kV doc pm an cdv ct), osl⟩) (hcd : codeIn K cdv qual = true) (hroom : A.depth < recursionLimit)
    (hbind : BindsTo s (fnOf name qual params body scope dV kV doc pm an cdv ct) args binds) (hloc : ∀ y ∈ binds, scope.names.lookup y.1 = some .local)
    (h : ∀ L' oL h₁ tk, TI.Caller h₀ L m oL → (∀ p ∈ news, p.1 ≠ L) → Fr h₀ L' h₁ (fun y => binds.reverse.lookup y) → News h₀ L' h₁ ((L, oL) :: news) →
      wpAny (model prog w) (A.deeper (envOf qual scope L' f cdv)) (execs body (envOf qual scope L' f cdv))
        (fun fl s' => R (.ok (.ret (match fl with | .ret v => v | _ => .none))) s')
        (fun e s' => wpAny (model prog w) (A.deeper (envOf qual scope L' f cdv)) (leaving (envOf qual scope L' f cdv) e) (fun _ s'' => R (.error e) s'') (fun e' s'' => R (.error e') s'') s')
        { s with heap := h₁, toks := tk })
    (hco : scope.isCoroutine = false) (hgen : scope.isGenerator = false) (hk : scope.kind = .function)
    (hcell : ∀ x ∈ scope.names, x.2 ≠ .cell) : codeAny (model prog w) A (.call (.ref f) args) R s := by
  have X := X₀.keeps F.keep
  obtain ⟨oL, es, ep, hL, hLd, hLk, hLf⟩ := F.ns
  have hLt := Heap.lt_size hL
  refine codeAny_call_def (fd := fnOf name qual params body scope dV kV doc pm an cdv ct) (body := body) (binds := binds) hroom (X _ _ ho) rfl (T.nolimit.keeps F.keep) (codeRec_of X hcd) rfl hbind hcell hloc (fun h₁ hns hk₁ => ?_) hco hgen hk
  refine wpAny_mono (h s.heap.objs.size oL h₁ _ ⟨fun h' sl e => ⟨_, es, ep, e, hLd, hLk, hLf⟩, ⟨es, ep, hLd⟩, F.above⟩ (fun p hp => (N p hp).2.1)
    ⟨hns, fun b o e => hk₁ b o (F.keep b o e), Nat.le_trans F.above (Nat.le_of_lt hLt)⟩ (fun p hp => ?_)) (fun _ _ x => x) fun _ _ x => wpAny_mono x (fun _ _ y => y) fun _ _ y => y
  rcases List.mem_cons.mp hp with rfl | hp
  · exact ⟨hk₁ _ _ hL, Nat.ne_of_lt hLt, Heap.get?_none_of_le F.above⟩
  · obtain ⟨h1, h2, h3⟩ := N p hp
    exact ⟨hk₁ _ _ h1, Nat.ne_of_lt (Heap.lt_size h1), h3⟩
end

/-- what a call hands back -/
abbrev Back (h₀ : Heap) (L : Addr) (m : Str → Option Value) (news : List (Addr × Obj)) (s : Shared) (Q : Value → Shared → Prop) (R : Value → Prop) : Prop :=
  ∀ (v : Value) (h' : Heap) (tk' : Nat), R v → Fr h₀ L h' m → News h₀ L h' news → Q v { s with heap := h', toks := tk' }

def IsOI (o : Option Int) (v : Value) : Prop := match o with
  | some i => ∃ t, v = .int i t
  | none => v = .none

section
variable {h₀ h' : Heap} {L L' : Addr} {m m' : Str → Option Value} {news news' : List (Addr × Obj)} {s : Shared} {Q : Value → Shared → Prop} {i : Int} {o : Option Int} {t : Tok} {tk' : Nat} {oL : Obj} {sl : Array (Option Value)} {R : Value → Prop} {v : Value}

theorem back_to (hret : Back h₀ L m news s Q R) (hv : R v) (C : TI.Caller h₀ L m oL) (ne : ∀ p ∈ news, p.1 ≠ L) (F : Fr h₀ L' h' m') (N : News h₀ L' h' news') (hs : ∀ p ∈ ((L, oL) :: news), p ∈ news') : Q v { s with heap := h', toks := tk' } := by
  have hL : h'.get? L = some oL := (N _ (hs _ (List.mem_cons_self ..))).1
  refine hret v h' tk' hv ⟨C.ns h' oL.slots hL, F.keep, C.above⟩ fun p hp => ?_
  obtain ⟨a, b, c⟩ := N p (hs p (List.mem_cons_of_mem _ hp))
  exact ⟨a, ne p hp, c⟩
theorem back_some (hret : Back h₀ L m news s Q (IsOI o)) (e : o = some i) (C : TI.Caller h₀ L m oL) (ne : ∀ p ∈ news, p.1 ≠ L) (F : Fr h₀ L' h' m') (N : News h₀ L' h' news') (hs : ∀ p ∈ ((L, oL) :: news), p ∈ news') : Q (.int i t) { s with heap := h', toks := tk' } :=
  back_to hret (by rw [e]; exact ⟨t, rfl⟩) C ne F N hs
theorem back_none (hret : Back h₀ L m news s Q (IsOI o)) (e : o = none) (C : TI.Caller h₀ L m oL) (ne : ∀ p ∈ news, p.1 ≠ L) (F : Fr h₀ L' h' m') (N : News h₀ L' h' news') (hs : ∀ p ∈ ((L, oL) :: news), p ∈ news') : Q .none { s with heap := h', toks := tk' } :=
  back_to hret (by rw [e]; rfl) C ne F N hs
end

theorem gen_cons {M : PySem.Model} {A : Around} {E : Value → Shared → Prop} {st : Stmt} {rest : List Stmt} {env : Env} {Q : Flow → Shared → Prop} {h : Heap} {g : Array GenState} {d : Drawn} {x : Nat} {os : OsState}
    (hh : ∀ tk, wpAny M A (exec st env) (fun f s' => match f with | .next => wpAny M A (execs rest env) Q E s' | f => Q f s') E ⟨h, g, d, tk, os⟩) : wpAny M A (execs (st :: rest) env) Q E ⟨h, g, d, x, os⟩ := wpAny_execs_cons (hh x)
theorem gen_nil {M : PySem.Model} {A : Around} {E : Value → Shared → Prop} {env : Env} {Q : Flow → Shared → Prop} {h : Heap} {g : Array GenState} {d : Drawn} {x : Nat} {os : OsState}
    (hh : ∀ tk, Q .next ⟨h, g, d, tk, os⟩) : wpAny M A (execs [] env) Q E ⟨h, g, d, x, os⟩ := wpAny_execs_nil (hh x)

section
variable {prog : Program} {w : World} {A₀ : Around} {E : Value → Shared → Prop} {s' : Shared} {h₀ h : Heap} {l : List Env} {frs new : List (Addr × Obj)} {L a e : Addr} {m : Str → Option Value} {name : Str} {scope : Scope} {cd : Value}
  {b₀ : Stmt} {suite : List Stmt} {pos np : Pos} {rest : List ExceptHandler} {Q : Flow → Shared → Prop} {X : String} {p : Program} {loose : List Str} {mean : ExcName → Option Value} {mg mb : Str → Option Value} {x : Str}

/-- an exception that is new is caught in the frame itself: the frames around may have turned their slots -/
theorem caught_c (hfr : A₀.frames = some l) (Fs : TI.Frs l frs) (hx : Heap.NewExc h s'.heap e X) (F : Fr h₀ L h m) (N : News h₀ L h (new ++ frs)) (hap : ∀ p ∈ new, p.1 ∉ L :: frs.map (·.1)) (T : Top p loose mean mg mb h₀)
    (k : ∀ h' frs', TI.SameUp frs frs' → TI.Frs l frs' → Fr h₀ L h' m → News h₀ L h' (new ++ frs') → wpAny (model prog w) ((A₀.deeper (envOf name scope L a cd)).mark (some (.ref e))) (execs (b₀ :: suite) (envOf name scope L a cd)) Q E { s' with heap := h' })
    (t1 : x ∉ startupNames) (t2 : x ∉ loose) (t3 : x ∉ (recsOf p).map (·.name)) (t4 : x ∉ (litsOf p).map (·.1)) (t5 : x ∉ (clssOf p loose).map (·.name))
    (h3 : subB X (.type x.toString) = some true) (hv : bootBuiltins x = some (.type x.toString)) (h1 : subB x.toString (.type "BaseException") = some true)
    (h2 : subB ((Manifest.find? x.toString).elim "type" fun y => y.metatype) (.type "tuple") = some false) (hn : x ≠ "__name__")
    (hk : scope.kind = .function) (hxk : (envOf name scope L a cd).kindOf x = some .globalImplicit) (hdb : (x == ("__debug__" : Str)) = false)
    (hE : PassesOwnAt (model prog w) ((A₀.deeper (envOf name scope L a cd)).mark (some (.ref e))) (A₀.deeper (envOf name scope L a cd)) (envOf name scope L a cd) E) :
    wpAny (model prog w) (A₀.deeper (envOf name scope L a cd)) (noteFrame (.ref e) (envOf name scope L a cd))
      (fun _ s₂ => wpAny (model prog w) (A₀.deeper (envOf name scope L a cd)) (setFlight (.ref e) none) (fun _ s₃ =>
        wpAny (model prog w) (A₀.deeper (envOf name scope L a cd)) (handleBy (.ref e) (envOf name scope L a cd) (.ExceptHandler (some (.Name x np)) none (b₀ :: suite) pos :: rest)) Q E s₃) E s₂) E s' := by
  refine TLg.noted_newA hfr Fs hx F N hap (fun h' frs' SU Fs' H => ?_) hk
  refine TT.HeldNA.land H (fun h2' H2 => ?_)
  exact TT.clause_hitTN H2 T t1 t2 t3 t4 t5 (fun h3' F3 N3 => k h3' frs' SU Fs' F3 N3) h3 hv h1 h2 hn hk hxk hdb hE
end
end Mine
end

section
open PySem PySem.W PyProof.Rows
set_option Elab.async false
set_option linter.unusedVariables false
set_option maxRecDepth 100000
namespace Mine
open PySem.Builtin

/-- the place of a text in a list of texts -/
def sAt (k : PySem.Str) : List Value → Option Nat
  | [] => none
  | x :: r => if isStrOf k x then some 0 else (sAt k r).map (· + 1)
theorem sAt_spec {k : PySem.Str} : ∀ {l : List Value} {j : Nat}, sAt k l = some j → ∃ h : j < l.length, isStrOf k l[j] = true ∧ ∀ i (hi : i < l.length), i < j → isStrOf k l[i] = false := by
  intro l
  induction l with
  | nil => intro j h; cases h
  | cons x r ih =>
    intro j h
    unfold sAt at h
    cases hx : isStrOf k x with
    | true =>
      rw [hx] at h
      cases h
      exact ⟨Nat.zero_lt_succ _, hx, fun i _ hlt => absurd hlt (Nat.not_lt_zero _)⟩
    | false =>
      rw [hx] at h
      cases e : sAt k r with
      | none => rw [e] at h; cases h
      | some z =>
        rw [e] at h
        cases h
        obtain ⟨a, b, c⟩ := ih e
        refine ⟨Nat.succ_lt_succ a, b, fun i hi hlt => ?_⟩
        cases i with
        | zero => exact hx
        | succ i => exact c i (Nat.lt_of_succ_lt_succ hi) (Nat.lt_of_succ_lt_succ hlt)
theorem sAt_none {k : PySem.Str} : ∀ {l : List Value}, sAt k l = none → ∀ y ∈ l, isStrOf k y = false := by
  intro l
  induction l with
  | nil => intro h y hy; cases hy
  | cons x r ih =>
    intro h y hy
    unfold sAt at h
    cases hx : isStrOf k x with
    | true => rw [hx] at h; cases h
    | false =>
      rw [hx] at h
      have e : sAt k r = none := by
        cases e : sAt k r with
        | none => rfl
        | some z => rw [e] at h; cases h
      rcases List.mem_cons.mp hy with rfl | hy
      · exact hx
      · exact ih e y hy

def allStr : List Value → Bool
  | [] => true
  | .str _ _ :: r => allStr r
  | _ :: _ => false
theorem allStr_eq {k : PySem.Str} {t : Tok} : ∀ {l : List Value}, allStr l = true → ∀ y, y ∈ l → MeetsSeq.EqGives y (.str k t) (isStrOf k y)
  | .str a u :: r, h, y, hy => by
    rcases List.mem_cons.mp hy with rfl | hy
    · exact eqGives_str a k u t
    · exact allStr_eq (by simpa [allStr] using h) y hy

section
variable {prog : Program} {w : World} {A : Around} {E : Value → Shared → Prop} {s : Shared} {h₀ : Heap} {L D : Addr} {m : Str → Option Value} {news : List (Addr × Obj)} {K : Frag} {its : Array Value} {n : Nat}

theorem get_index {pl : Sem Bool} {Q : Value × List Value → Shared → Prop} (F : Fr h₀ L s.heap m) (X : K.In h₀) (hm : K.lookup D = some { cls := .type "list", data := .seq its n })
    (h : Q (.builtin "list.index", [.ref D]) s) : wpAny (model prog w) A (getMethod (.ref D) (PySem.Str.ofString "index") pl) Q E s :=
  getMethod_builtin ⟨_, X.keeps F.keep _ _ hm, rfl⟩ PySem.F.plainAttrs_list PySem.F.slot_list_index PySem.F.type_list_index (fun a e => by cases e; exact ⟨_, X.keeps F.keep _ _ hm, rfl⟩) h

theorem call_index {k : PySem.Str} {t : Tok} {j : Nat} {Q : Value → Shared → Prop} (F : Fr h₀ L s.heap m) (X : K.In h₀) (hm : K.lookup D = some { cls := .type "list", data := .seq its n }) (hi : allStr its.toList = true) (e : sAt k its.toList = some j) (hz : its.toList.length ≤ 100)
    (h : Q (.int (j : Int) s.toks) { s with toks := s.toks + 1 }) : wpAny (model prog w) A (call (.builtin "list.index") [.ref D, .str k t]) Q E s := by
  obtain ⟨a, b, c⟩ := sAt_spec e
  have hs : its.toList.length = its.size := Array.length_toList
  refine call_meets PySem.F.slot_list_index ⟨_, X.keeps F.keep _ _ hm, rfl⟩ PySem.F.entry_list_index (PySem.F.args_list_index_2 _ _)
    (MeetsSeq.list_index D its n (.str k t) (isStrOf k) (fun y hy => allStr_eq hi y (by simpa using hy)) j (by omega) (by omega) (by simpa using b) (fun i hi hlt => (c i (by omega) hlt : isStrOf k its.toList[i] = false))) ⟨X.keeps F.keep _ _ hm, h⟩
end

theorem isOI_some {o : Option Int} {v : Value} {g : Int} (h : IsOI o v) (e : o = some g) : ∃ t, v = .int g t := by subst e; exact h
theorem isOI_none {o : Option Int} {v : Value} (h : IsOI o v) (e : o = none) : v = .none := by subst e; exact h

/-- the months' names, small, each with the number ahead of it -/
def lowMonths : List PySem.Str := ["jan", "feb", "mar", "apr", "may", "jun", "jul", "aug", "sep", "oct", "nov", "dec"]
def idx (k : PySem.Str) : List PySem.Str → Option Nat
  | [] => none
  | x :: r => if (x == k) = true then some 0 else (idx k r).map (· + 1)
def monIdx (k : PySem.Str) : Option Nat := idx k lowMonths
end Mine
end

section
open PySem PySem.W PyProof.Rows
set_option Elab.async false
set_option linter.unusedVariables false
set_option maxRecDepth 100000
namespace Mine
open PySem.Builtin PySem.Builtin.Re PySem.Sre

theorem noCall_str {i : PySem.Str} {t : Tok} : specialOf (.str i t) "__call__" = pure none := by show typeLookup (.type "str") _ = _; rw [typeLookup_type, builtinLookup_eq_fast]; kernel_rfl
theorem plain_subloop : plainId "re.Pattern.sub.loop" = true := by decide +kernel
theorem named_sub (r x : PySem.Str) (rt tk : Tok) (i : Int) (it : Tok) : reNamed "re.Pattern.sub" "sub" ["repl", "string", "count"] 2 [.str r rt, .str x tk, .int i it] [] = pure [some (.str r rt), some (.str x tk), some (.int i it)] := by rfl

theorem strs_push {y : PySem.Str} {t : Tok} : ∀ {vs : List Value} {ys : List PySem.Str}, StrsAre vs ys → StrsAre (vs ++ [.str y t]) (ys ++ [y])
  | _, _, .nil => .cons _ _ .nil
  | _, _, .cons n u h => .cons n u (strs_push h)

section
variable {M : PySem.Model} {prog : Program} {w : World} {A : Around} {E : Value → Shared → Prop} {s : Shared} {h₀ : Heap} {L : Addr} {m : Str → Option Value} {news : List (Addr × Obj)}

theorem wp_whole {P : Addr} {x : PySem.Str} {tk : Tok} {code : Array Nat} {groups : Nat} {Q : ReTarget → Shared → Prop} (hp : IsPat s.heap P code groups)
    (h : Q { pattern := .ref P, string := .str x tk, code := code, text := x.cps, kind := 0, groups := groups, pos := 0, lim := x.cps.size } s) :
    wpAny M A (reWholeTarget (.ref P) (.str x tk)) Q E s := by
  obtain ⟨pat, t1, fl, t2, cd, items, h1, h2, h3⟩ := hp.pat
  unfold reWholeTarget
  refine wpAny_bind (wpAny_fieldsOf h1 rfl ?_)
  refine wpAny_bind (wpAny_pure (a := (x.cps, 0)) ?_)
  dsimp only
  have e : reRawNat ((#[.str pat t1, .int fl t2, .int groups 0, .none, .none, .ref cd, .int 0 0] : Array Value).getD 6 .none) = 0 := rfl
  rw [e]
  simp only [beq_self_eq_true, Bool.true_and, Bool.false_and, show ((0 : Nat) == 1) = false from rfl, Bool.false_eq_true, if_false]
  refine wpAny_bind ?_
  refine wpAny_pure ?_
  refine wpAny_bind (wp_rawItems (a := cd) h2 rfl (wpAny_pure ?_))
  have e1 : reRawNat ((#[.str pat t1, .int fl t2, .int groups 0, .none, .none, .ref cd, .int 0 0] : Array Value).getD 2 .none) = groups := by
    show (groups : Int).toNat = groups; omega
  rw [h3, e1]
  exact h

/-- the last turn of sub's loop: nothing more is sought, what is left goes to the pieces, and they are joined -/
theorem sub_last {P D : Addr} {x r : PySem.Str} {tk rt : Tok} {code : Array Nat} {groups dn start : Nat} {n : Int} {must : Bool} {its : Array Value} {vn : Nat} {ys : List PySem.Str} {Q : Value → Shared → Prop}
    (F : Fr h₀ L s.heap m) (N : News h₀ L s.heap ((D, { cls := .type "list", data := .seq its vn }) :: news)) (hap : ∀ p ∈ news, p.1 ≠ D) (hp : IsPat s.heap P code groups) (hx : x.cps.size < 65536) (hi : StrsAre its.toList ys) (hys : (ys.map (·.length)).sum ≤ 65536) (hits : its.size ≤ 3)
    (hdn : dn < x.cps.size)
    (hf : n ≥ 1 ∨ ∃ c sz, c < 2 ^ 60 ∧ Found c none sz (forSearch code x.cps groups start x.cps.size must))
    (h : ∀ t' k h', Fr h₀ L h' m → News h₀ L h' news → Q (.str (Txt.join ⟨x.cps.extract 0 0⟩ (ys ++ [⟨x.cps.extract dn x.cps.size⟩])) t') { s with heap := h', toks := k }) :
    wpAny (model prog w) A.in1 («re.Pattern.sub.loop» ⟨[.ref P, .str x tk, .str r rt, rawInt 0, rawInt 1, rawInt n, rawInt dn, rawInt start, .bool must, .ref D, .bool false], []⟩)
      (fun fin s' => match fin with | .done f => wants Q E (.ok f) s' | .again c' => c'.quiet = true ∧ codeAny (model prog w) A c' (wants Q E) s') (fun e s' => wants Q E (.error e) s') s := by
  unfold «re.Pattern.sub.loop»
  refine wpAny_bind (wp_whole hp ?_)
  dsimp only
  refine wpAny_bind (wpAny_pure ?_)
  have ez : (((start : Nat) : Int)).toNat = start := by omega
  have ed : (((dn : Nat) : Int)).toNat = dn := by omega
  rw [ez, ed]
  have hsk : wpAny (model prog w) A.in1 (if ((1 : Int) != 0 && decide (n ≥ 1)) = true then pure none else reNextFound { pattern := .ref P, string := .str x tk, code := code, text := x.cps, kind := 0, groups := groups, pos := 0, lim := x.cps.size } start must) (fun r' s' => r' = none ∧ s' = s) (fun e s' => wants Q E (.error e) s') s := by
    split
    · exact wpAny_pure ⟨rfl, rfl⟩
    · rename_i hn
      rcases hf with hf | ⟨c, sz, hc, hf⟩
      · exact absurd (by simp [hf]) hn
      · unfold reNextFound
        exact wp_found hf hc ⟨rfl, rfl⟩
  refine wpAny_bind (wpAny_mono hsk (fun r' s' hr => ?_) fun _ _ e => e)
  obtain ⟨rfl, hs⟩ := hr
  replace hs := hs.symm
  subst hs
  dsimp only
  rw [if_pos hdn]
  have hl : (⟨x.cps.extract dn x.cps.size⟩ : PySem.Str).length ≤ 65536 := by
    show (x.cps.extract dn x.cps.size).size ≤ _
    rw [Array.size_extract]; omega
  have hlz : ∀ n : Nat, n ≤ 65536 → n ≤ sizeLine := fun n h => by rw [sizeLine_eq]; omega
  refine wpAny_bind (wpAny_mkStr ?_ (hlz _ hl))
  have hD := N _ (.head _)
  refine wpAny_bind (wpAny_updateSeq hD.1 rfl ?_ (by rw [sizeLine_eq]; omega) (by rw [sizeLine_eq, Array.size_push]; omega))
  have hget : (s.heap.update D (Obj.mapSeq fun z => z.push (.str ⟨x.cps.extract dn x.cps.size⟩ s.toks))).get? D = some { cls := .type "list", data := .seq (its.push (.str ⟨x.cps.extract dn x.cps.size⟩ s.toks)) (vn + 1) } := by
    rw [Heap.get?_update_self _ hD.1 rfl]
    simp [Obj.mapSeq]
  have F1 := F.change (Heap.SameBut.update (f := Obj.mapSeq fun z => z.push (.str ⟨x.cps.extract dn x.cps.size⟩ s.toks)) ..) hD.2.1 hD.2.2
  have N1 := N.setHead hap (Heap.SameBut.update (f := Obj.mapSeq fun z => z.push (.str ⟨x.cps.extract dn x.cps.size⟩ s.toks)) ..) hget
  refine wpAny_bind (wpAny_mkStr ?_ (hlz _ (by show (x.cps.extract 0 0).size ≤ _; rw [Array.size_extract]; omega)))
  refine wpAny_bind (wpAny_seqItems hget rfl ?_)
  have hne : (((some (its.push (.str ⟨x.cps.extract dn x.cps.size⟩ s.toks))).getD #[] : Array Value)).isEmpty = false := by simp
  rw [hne]
  simp only [Bool.false_eq_true, if_false]
  have hjs : StrsAre (its.push (.str ⟨x.cps.extract dn x.cps.size⟩ s.toks)).toList (ys ++ [⟨x.cps.extract dn x.cps.size⟩]) := by
    rw [Array.toList_push]
    exact strs_push hi
  have hlen : (ys ++ [(⟨x.cps.extract dn x.cps.size⟩ : PySem.Str)]).length ≤ 4 := by
    have := hjs.length
    rw [Array.length_toList, Array.size_push] at this
    omega
  refine wpAny_bind (join_list ⟨_, hget, rfl, _, rfl⟩ hjs ?_ fun t' k => ?_)
  · rw [List.map_append, List.sum_append]
    have e0 : (⟨x.cps.extract 0 0⟩ : PySem.Str).length = 0 := by show (x.cps.extract 0 0).size = 0; rw [Array.size_extract]; omega
    rw [e0]
    simp only [List.map_cons, List.map_nil, List.sum_cons, List.sum_nil]
    omega
  · exact wpAny_pure (h t' k _ F1 (fun p hp => N1 p (.tail _ hp)))

theorem sub_enter {P : Addr} {x : PySem.Str} {tk rt it : Tok} {code : Array Nat} {groups : Nat} {Q : Value → Shared → Prop} (hp : IsPat s.heap P code groups)
    (h : wpAny (model prog w) A.in1 («re.Pattern.sub.loop» ⟨[.ref P, .str x tk, .str "" rt, rawInt 0, rawInt 1, rawInt 0, rawInt 0, rawInt 0, .bool false, .ref s.heap.objs.size, .bool false], []⟩)
      (fun fin s' => match fin with | .done f => wants Q E (.ok f) s' | .again c' => c'.quiet = true ∧ codeAny (model prog w) A c' (wants Q E) s') (fun e s' => wants Q E (.error e) s') { s with heap := s.heap.push { cls := .type "list", data := .seq #[] } }) :
    wpAny (model prog w) A (call (.builtin "re.Pattern.sub") [.ref P, .str "" rt, .str x tk, .int 1 it]) Q E s := by
  have hT : s.TypeIs (.ref P) "re.Pattern" := by obtain ⟨pat, t1, fl, t2, cd, items, a, b⟩ := hp.pat; exact ⟨_, a, rfl⟩
  refine wpAny_call (codeAny_call_builtin slot_sub.plain entry_sub (slot_sub.check _ _ _ _ _ _ _ _ hT (args_sub _ _ _ _) ?_))
  unfold «re.Pattern.sub» reSubstitute
  dsimp only
  rw [named_sub]
  refine wpAny_bind (wpAny_pure ?_)
  dsimp only
  refine wpAny_bind (wpAny_pure (a := (1 : Int)) ?_)
  rw [noCall_str]
  refine wpAny_bind (wpAny_pure ?_)
  simp only [Option.isSome_none, Bool.false_eq_true, if_false]
  refine wpAny_bind (wpAny_pure (a := some ("" : PySem.Str)) ?_)
  dsimp only
  rw [show (!(PySem.Str.ofString "").cps.contains 92) = true from by decide +kernel]
  refine wpAny_bind (wpAny_pure ?_)
  simp only [if_true]
  refine wpAny_bind (wpAny_pure ?_)
  dsimp only
  refine wpAny_bind (wp_whole hp ?_)
  simp only [show ((0 : Int) == 1) = false from rfl, Bool.false_eq_true, if_false]
  refine wpAny_bind (wpAny_newList ?_ (by rw [sizeLine_eq]; exact Nat.zero_le _))
  exact wpAny_pure ⟨plainId_quiet plain_subloop _, codeAny_builtin entry_subloop (by
    rw [Around.under_plainId plain_subloop _]
    exact h)⟩

theorem call_sub_none {P : Addr} {x : PySem.Str} {tk rt it : Tok} {code : Array Nat} {groups c sz : Nat} {g : Option Got} {Q : Value → Shared → Prop} (F : Fr h₀ L s.heap m) (N : News h₀ L s.heap news) (hp : IsPat h₀ P code groups) (hg : g = none) (hx : x.cps.size < 65536) (hx0 : 0 < x.cps.size)
    (hf : Found c g sz (forSearch code x.cps groups 0 x.cps.size false)) (hc : c < 2 ^ 60)
    (h : ∀ t' k h', Fr h₀ L h' m → News h₀ L h' news → Q (.str x t') { s with heap := h', toks := k }) :
    wpAny (model prog w) A (call (.builtin "re.Pattern.sub") [.ref P, .str "" rt, .str x tk, .int 1 it]) Q E s := by
  subst hg
  refine sub_enter (hp.keeps F.keep) ?_
  have F1 := F.push { cls := .type "list", data := .seq #[] }
  have N1 := News.push F N { cls := .type "list", data := .seq #[] }
  refine sub_last (n := 0) (dn := 0) (start := 0) (its := #[]) (ys := []) F1 N1 (fun p hp => Nat.ne_of_lt (Heap.lt_size (N p hp).1)) (hp.keeps F1.keep) hx .nil (by simp) (by simp) hx0 (.inr ⟨c, sz, hc, hf⟩) fun t' k h' F' N' => ?_
  have e : Txt.join ⟨x.cps.extract 0 0⟩ ([] ++ [⟨x.cps.extract 0 x.cps.size⟩]) = x := by
    rw [Array.extract_size]
    rfl
  rw [e]
  exact h t' k h' F' N'

theorem call_sub_some {P : Addr} {x : PySem.Str} {tk rt it : Tok} {code : Array Nat} {groups c sz : Nat} {g : Option Got} {q : Got} {Q : Value → Shared → Prop} (F : Fr h₀ L s.heap m) (N : News h₀ L s.heap news) (hp : IsPat h₀ P code groups) (hg : g = some q) (hx : x.cps.size < 65536) (hq : q.e < x.cps.size)
    (hf : Found c g sz (forSearch code x.cps groups 0 x.cps.size false)) (hc : c < 2 ^ 60)
    (h : ∀ t' k h', Fr h₀ L h' m → News h₀ L h' news → Q (.str ⟨x.cps.extract q.e x.cps.size⟩ t') { s with heap := h', toks := k }) :
    wpAny (model prog w) A (call (.builtin "re.Pattern.sub") [.ref P, .str "" rt, .str x tk, .int 1 it]) Q E s := by
  subst hg
  refine sub_enter (hp.keeps F.keep) ?_
  have F1 := F.push { cls := .type "list", data := .seq #[] }
  have N1 := News.push F N { cls := .type "list", data := .seq #[] }
  have hap : ∀ p ∈ news, p.1 ≠ s.heap.objs.size := fun p hp => Nat.ne_of_lt (Heap.lt_size (N p hp).1)
  have hp1 := hp.keeps F1.keep
  unfold «re.Pattern.sub.loop»
  refine wpAny_bind (wp_whole hp1 ?_)
  dsimp only
  refine wpAny_bind (wpAny_pure ?_)
  simp only [show ((1 : Int) != 0 && decide ((0 : Int) ≥ 1)) = false from rfl, Bool.false_eq_true, if_false]
  unfold reNextFound
  refine wpAny_bind (wp_found hf hc ?_)
  dsimp only
  intro m' e1 e2 e3 hv
  rw [e1, e2]
  simp only [show ((0 : Int).toNat < 0) = False from by simp, if_false]
  refine wpAny_bind (wpAny_pure ?_)
  have hD := N1 _ (.head _)
  simp only [show ((Value.str (PySem.Str.ofString "") rt) != Value.none) = true from rfl, if_true]
  refine wpAny_bind (wpAny_updateSeq hD.1 rfl ?_ (by rw [sizeLine_eq]; exact Nat.zero_le _) (by rw [sizeLine_eq]; exact Nat.le_of_ble_eq_true rfl))
  have hget : ((s.heap.push { cls := .type "list", data := .seq #[] }).update s.heap.objs.size (Obj.mapSeq fun z => z.push (.str "" rt))).get? s.heap.objs.size = some { cls := .type "list", data := .seq #[.str "" rt] (0 + 1) } := by
    rw [Heap.get?_update_self _ hD.1 rfl]
    rfl
  have F2 := F1.change (Heap.SameBut.update (f := Obj.mapSeq fun z => z.push (.str "" rt)) ..) hD.2.1 hD.2.2
  have N2 := N1.setHead hap (Heap.SameBut.update (f := Obj.mapSeq fun z => z.push (.str "" rt)) ..) hget
  refine wpAny_pure ⟨plainId_quiet plain_subloop _, codeAny_builtin entry_subloop (by
    rw [Around.under_plainId plain_subloop _]
    refine sub_last (n := 0 + 1) (dn := q.e) (start := q.e) (ys := [("" : PySem.Str)]) F2 N2 hap (hp.keeps F2.keep) hx (.cons _ _ .nil) (Nat.le_of_ble_eq_true rfl) (Nat.le_of_ble_eq_true rfl) hq (.inl (by decide)) fun t' k h' F' N' => ?_
    have e : Txt.join ⟨x.cps.extract 0 0⟩ ([("" : PySem.Str)] ++ [⟨x.cps.extract q.e x.cps.size⟩]) = ⟨x.cps.extract q.e x.cps.size⟩ := by
      have : x.cps.extract 0 0 = #[] := by simp
      rw [this]
      show (⟨((#[] : Array Nat) ++ #[]) ++ x.cps.extract q.e x.cps.size⟩ : PySem.Str) = _
      simp
    rw [e]
    exact h t' k h' F' N')⟩
end
end Mine
end

section
open PySem PySem.W PyProof.Rows
set_option Elab.async false
set_option linter.unusedVariables false
set_option maxRecDepth 100000
namespace Mine
open PySem.Builtin PySem.Builtin.Re PySem.Sre

/-- the seven groups' texts -/
structure G7 where
  a : Option PySem.Str
  b : Option PySem.Str
  c : Option PySem.Str
  d : Option PySem.Str
  e : Option PySem.Str
  f : Option PySem.Str
  g : Option PySem.Str
def Grs (x : PySem.Str) (g : Got) (d : G7) : Prop :=
  txt x (grp g 0) = d.a ∧ txt x (grp g 1) = d.b ∧ txt x (grp g 2) = d.c ∧ txt x (grp g 3) = d.d ∧ txt x (grp g 4) = d.e ∧ txt x (grp g 5) = d.f ∧ txt x (grp g 6) = d.g

theorem loose_fit {n : Nat} (h : n < 65536) : 3 * cD n + 3 * n + 100 < 2 ^ 60 := by
  have h1 : n ≤ 65536 := Nat.le_of_lt h
  have h2 : cY n ≤ 600 * 65536 + 2005 + 65536 * (600 * 65536 + 2002) := by
    unfold cY
    have := Nat.mul_le_mul h1 (show 600 * n + 2002 ≤ 600 * 65536 + 2002 by omega)
    omega
  unfold cD cW
  omega

section
variable {M : PySem.Model} {prog : Program} {w : World} {A : Around} {E : Value → Shared → Prop} {s : Shared} {h₀ : Heap} {L : Addr} {m : Str → Option Value} {news : List (Addr × Obj)}

theorem call_groups7 {mt P lim : Addr} {x : PySem.Str} {tk : Tok} {li : Int} {sp : Addr} {g : Got} {d : G7} {Q : Value → Shared → Prop} (N : News h₀ L s.heap news) (F : Fr h₀ L s.heap m) (hm : (mt, matchObj x tk P lim li sp) ∈ news) (hs : (sp, tupOf (spanVals g 7)) ∈ news)
    (hx : x.cps.size < 65536) (hd : Grs x g d)
    (h : ∀ tp t1 t2 t3 t4 t5 t6 t7 h' tk', Fr h₀ L h' m → News h₀ L h' ((tp, tupOf [optVal d.a t1, optVal d.b t2, optVal d.c t3, optVal d.d t4, optVal d.e t5, optVal d.f t6, optVal d.g t7]) :: news) → (∀ p ∈ news, p.1 < tp) → Q (.ref tp) { s with heap := h', toks := tk' }) :
    wpAny (model prog w) A (call (.builtin "re.Match.groups") [.ref mt]) Q E s := by
  refine call_groups F N hm hs hx (by omega) fun tp tks h' tk' F' N' l => ?_
  refine h tp (tks 0) (tks 1) (tks 2) (tks 3) (tks 4) (tks 5) (tks 6) h' tk' F' ?_ l
  obtain ⟨h1, h2, h3, h4, h5, h6, h7⟩ := hd
  rw [← h1, ← h2, ← h3, ← h4, ← h5, ← h6, ← h7]
  exact N'

theorem call_lstrip {x y : PySem.Str} {t : Tok} {Q : Value → Shared → Prop} (hx : x.cps.size < 65536) (e : Txt.lstrip x = y) (h : ∀ t' k, Q (.str y t') { s with toks := k }) : wpAny (model prog w) A (call (.builtin "str.lstrip") [.str x t]) Q E s := by
  subst e
  refine SCL.lstrip (fun t' k _ => h t' k) ?_
  rw [sizeLine_eq]
  show x.cps.size ≤ _
  omega
end
end Mine
end

section
set_option rowWalk.seconds 0
theorem Mine.wOff21 : True := by
  w_top off
  trivial
open PySem PySem.W PyProof.Rows
set_option Elab.async false
set_option linter.unusedVariables false
set_option maxRecDepth 100000
set_option maxHeartbeats 4000000
namespace Mine
open PySem.Builtin PySem.Builtin.Re PySem.Sre

local macro_rules | `(tactic| walk_at "execs cons") => `(tactic| (k_here; (with_reducible refine gen_cons ?_); intro tk; try dsimp only))
local macro_rules | `(tactic| walk_at "execs nil") => `(tactic| (k_here; (with_reducible refine gen_nil ?_); intro tk; try dsimp only))
local macro_rules | `(tactic| walk_at "getMethod ref") => `(tactic| (k_here; (with_reducible show wpAny _ _ (getMethod _ (PySem.Str.ofString "search") _) _ _ _); k_dflt (refine' get_search ?P ?_; (case P => exact isPat_K (by k_in) (by k_is) (by k_is) (by rfl)))))
local macro_rules | `(tactic| walk_at "getMethod ref") => `(tactic| (k_here; (with_reducible show wpAny _ _ (getMethod _ (PySem.Str.ofString "sub") _) _ _ _); k_dflt (refine' get_sub ?P ?_; (case P => exact isPat_K (by k_in) (by k_is) (by k_is) (by rfl)))))
local macro_rules | `(tactic| walk_at "getMethod ref") => `(tactic| (k_here; (with_reducible show wpAny _ _ (getMethod _ (PySem.Str.ofString "groups") _) _ _ _); k_dflt (refine' get_groups ?N ?m ?_; (case N => k_asm); (case m => k_mem))))
local macro_rules | `(tactic| walk_at "call builtin:re.Pattern.search") => `(tactic| (k_here; (with_reducible show wpAny _ _ (call _ [Value.ref 121, _] _) _ _ _); k_dflt (
  (refine' call_search_none ?F ?N ?P (r := none) rfl ?x (strict_found ?x2 ?co) ?c ?g ?_; (case F => k_asm); (case N => k_asm); (case P => exact isPat_K (by k_in) (by k_is) (by k_is) (by rfl)); (case x => assumption); (case x2 => assumption); (case co => assumption); (case c => omega); (case g => exact Nat.le_of_ble_eq_true rfl)))))
local macro_rules | `(tactic| walk_at "call builtin:re.Pattern.search") => `(tactic| (k_here; (with_reducible show wpAny _ _ (call _ [Value.ref 131, _] _) _ _ _); k_dflt (first
  | (refine' call_search_none ?F ?N ?P ?r ?x (loose_found ?x2 ?h5) ?c ?g ?_; (case F => k_asm); (case N => k_asm); (case P => exact isPat_K (by k_in) (by k_is) (by k_is) (by rfl)); (case r => assumption); (case x => assumption); (case x2 => assumption); (case h5 => assumption); (case c => exact loose_fit (by assumption)); (case g => exact Nat.le_of_ble_eq_true rfl))
  | (refine' call_search_some ?F ?N ?P ?r ?x (loose_found ?x2 ?h5) ?c ?g ?k ?_; (case F => k_asm); (case N => k_asm); (case P => exact isPat_K (by k_in) (by k_is) (by k_is) (by rfl)); (case r => assumption); (case x => assumption); (case x2 => assumption); (case h5 => assumption); (case c => exact loose_fit (by assumption)); (case g => exact Nat.le_of_ble_eq_true rfl); (case k => assumption); intro mt' sp' li' h' F' N' l1 l2; (try k_lt l1); (try k_lt2 l2); (try k_sweep)))))
local macro_rules | `(tactic| walk_at "call builtin:re.Pattern.sub") => `(tactic| (k_here; k_dflt (first
  | (refine' call_sub_none ?F ?N ?P ?r ?x ?x0 (week_found ?x2) ?c ?_; (case F => k_asm); (case N => k_asm); (case P => exact isPat_K (by k_in) (by k_is) (by k_is) (by rfl)); (case r => assumption); (case x => assumption); (case x0 => assumption); (case x2 => assumption); (case c => omega); intro t' k' h' F' N')
  | (refine' call_sub_some ?F ?N ?P ?r ?x ?x0 (week_found ?x2) ?c ?_; (case F => k_asm); (case N => k_asm); (case P => exact isPat_K (by k_in) (by k_is) (by k_is) (by rfl)); (case r => assumption); (case x => assumption); (case x0 => assumption); (case x2 => assumption); (case c => omega); intro t' k' h' F' N'))))
local macro_rules | `(tactic| walk_at "call builtin:re.Match.groups") => `(tactic| (k_here; k_dflt (refine' call_groups7 ?N ?F ?m ?s ?x ?o ?_; (case N => k_asm); (case F => k_asm); (case m => k_mem); (case s => k_mem); (case x => assumption); (case o => assumption); intro tp' t1' t2' t3' t4' t5' t6' t7' h' tk' F' N' l1; (try k_lt l1); (try k_sweep))))
local macro_rules | `(tactic| walk_at "call builtin:str.lstrip") => `(tactic| (k_here; (with_reducible show wpAny _ _ (call _ [Value.str _ _]) _ _ _); (refine call_lstrip (by assumption) (by assumption) ?_; intro _ _)))

local macro_rules | `(tactic| walk_at "binaryOp Mult ref int") => `(tactic| (k_here; k_dflt (refine' KMa.mul (vs := [Value.none]) (ws := [Value.none, Value.none, Value.none, Value.none, Value.none, Value.none, Value.none]) ?F ?N ?l ?lo ?hi ?z ?e ?_; (case F => k_asm); (case N => k_asm); (case l => exact News.isList (by k_asm) (by k_mem)); (case lo => decide); (case hi => decide); (case z => decide); (case e => rfl); intro D' h' F' N' l1; (try k_lt l1); (try k_sweep))))

section
variable {w : World} {mean : ExcName → Option Value} {mg mb : Str → Option Value} {loose : List Str} {dp un : Nat} {gd : Option (List Code)} {cn : Str} {cs : Scope} {a : Addr} {ccd : Value} {cl : List (Str × Addr)} {outer : List Env} {h₀ : Heap} {L : Addr} {m : Str → Option Value} {s : Shared} {Q E : Value → Shared → Prop} {news : List (Addr × Obj)}

theorem http1_c {x y : PySem.Str} {t : Tok} {g : Got} {ds : G7} {r : Option Int} (F : Fr h₀ L s.heap m) (X : (hd.heap_39 w.params).In h₀) (N : News h₀ L s.heap news) (T : Top hd.view_39 loose mean mg mb h₀)
    (hk : cs.kind = .function) (hdp : dp + 60 < recursionLimit) (hun : un + 600 < cLine)
    (hx : x.cps.size < 65536) (hx0 : 0 < x.cps.size) (hG : ch x.cps (·==71) 26 = true → ch x.cps (·==77) 27 = true → False) (hl : Txt.lstrip x = y) (hy : y.cps.size < 65536) (hy0 : 0 < y.cps.size) (hw : gK y.cps = none)
    (hg : gD y.cps = some g) (h5 : (gD y.cps).isSome = true → 5 ≤ y.cps.size) (hok : ∀ k b e, grp g k = some (b, e) → b ≤ e) (hgr : Grs y g ds)
    (H : ∀ {dp un : Nat} {gd : Option (List Code)} {cn : Str} {cs : Scope} {L a : Addr} {ccd : Value} {cl : List (Str × Addr)} {outer : List Env} {m : Str → Option Value} {s : Shared} {Q E : Value → Shared → Prop} {news : List (Addr × Obj)} {t1 t2 t3 t4 t5 t6 t7 : Tok},
      Fr h₀ L s.heap m → News h₀ L s.heap news → cs.kind = .function → dp + 50 < recursionLimit → un + 500 < cLine → Back h₀ L m news s Q (IsOI r) →
      wpAny (model PySem.Challenge.rw_ec5008_02.row.prog w) (ktrTop dp un gd cn cs L a ccd cl outer) (call (.ref 116) [optVal ds.a t1, optVal ds.b t2, optVal ds.c t3, optVal ds.d t4, optVal ds.e t5, optVal ds.f t6, optVal ds.g t7]) Q E s)
    (hret : Back h₀ L m news s Q (IsOI r)) : wpAny (model PySem.Challenge.rw_ec5008_02.row.prog w) (ktrTop dp un gd cn cs L a ccd cl outer) (call (.ref 138) [.str x t]) Q E s := by
  revert X; k_fill; intro X
  refine wpAny_call ?_
  k_dflt (refine' code_c ?F ?X ?N ?T ?o ?c ?r ?b ?l ?_ ?c2 ?c3 ?c4 ?c5; (case F => k_asm); (case X => k_asm); (case N => k_asm); (case T => k_asm); (case o => k_is); (case c => k_is); (case r => ktr_room); (case b => exact BindsTo.of_eq rfl); (case l => exact locs rfl); (case c2 => exact rfl); (case c3 => exact rfl); (case c4 => exact rfl); (case c5 => decide))
  intro L' oL h₁ tk C ne F' N'
  (try dsimp only); (try k_fold)
  k_steps
  k_dflt (refine' H ?F ?N ?k ?d ?u ?_; (case F => k_asm); (case N => k_asm); (case k => exact rfl); (case d => ktr_room); (case u => ktr_units))
  intro v9 h9 tk9 hv9 F9 N9
  (try dsimp only)
  k_steps
  all_goals (refine' back_to hret hv9 ?C ?ne ?F ?N ?hs; (case C => k_asm); (case ne => k_asm); (case F => k_asm); (case N => k_asm); (case hs => kcj_all))
end
end Mine
end

section
local macro_rules | `(tactic| walk_at "none such") => `(tactic| fail)
local macro_rules | `(tactic| walk_at "none such") => `(tactic| fail)
local macro_rules | `(tactic| walk_at "none such") => `(tactic| fail)
local macro_rules | `(tactic| walk_at "none such") => `(tactic| fail)
local macro_rules | `(tactic| walk_at "none such") => `(tactic| fail)
local macro_rules | `(tactic| walk_at "none such") => `(tactic| fail)
local macro_rules | `(tactic| walk_at "none such") => `(tactic| fail)
local macro_rules | `(tactic| walk_at "none such") => `(tactic| fail)
local macro_rules | `(tactic| walk_at "none such") => `(tactic| fail)
local macro_rules | `(tactic| walk_at "none such") => `(tactic| fail)
local macro_rules | `(tactic| walk_at "none such") => `(tactic| fail)
local macro_rules | `(tactic| walk_at "none such") => `(tactic| fail)
set_option rowWalk.seconds 0
theorem Mine.wOff22 : True := by
  w_top off
  trivial
open PySem PySem.W PyProof.Rows
set_option Elab.async false
set_option linter.unusedVariables false
set_option maxRecDepth 100000
set_option maxHeartbeats 4000000
namespace Mine
open PySem.Builtin

local macro_rules | `(tactic| walk_at "execs cons") => `(tactic| (k_here; (with_reducible refine gen_cons ?_); intro tk; try dsimp only))
local macro_rules | `(tactic| walk_at "execs nil") => `(tactic| (k_here; (with_reducible refine gen_nil ?_); intro tk; try dsimp only))

local macro_rules | `(tactic| walk_at "subscriptTail Name Slice ref ref") => `(tactic| (k_here; (with_reducible show wpAny _ _ (subscriptTail _ (PySem.Expr.Slice none (some _) none _) (Value.ref _) (Value.ref _)) _ _ _); k_dflt (refine' slice_tuple_to ?F ?N ?m ?e ?a ?_ ?s ?t ?z; (case F => k_asm); (case N => k_asm); (case m => first | k_mem | ((repeat (refine List.mem_cons_of_mem _ ?_)); assumption)); (case e => exact rfl); (case a => exact Nat.le_of_ble_eq_true rfl); (case s => with_unfolding_all rfl); (case t => (intro _; with_unfolding_all rfl)); (case z => exact Nat.le_of_ble_eq_true rfl)); intro D' h' F' N' l1; (try k_lt l1); (try k_sweep)))
local macro_rules | `(tactic| walk_at "call type:datetime.date") => `(tactic| (k_here; k_dflt (refine' call_date ?F ?N ?y ?m ?_; (case F => k_asm); (case N => k_asm); (case y => omega); (case m => omega)); intro D' h' F' N' l1; (try k_lt l1); (try k_sweep)))
local macro_rules | `(tactic| walk_at "getMethod ref") => `(tactic| (k_here; k_dflt (refine' get_toordinal ?N ?m ?_; (case N => k_asm); (case m => first | k_mem | ((repeat (refine List.mem_cons_of_mem _ ?_)); assumption)))))
local macro_rules | `(tactic| walk_at "call builtin:datetime.date.toordinal") => `(tactic| (k_here; k_dflt (refine' call_toordinal ?N ?m ?_; (case N => k_asm); (case m => first | k_mem | ((repeat (refine List.mem_cons_of_mem _ ?_)); assumption)))))

def secs (y mo d h mi s : Int) : Int := (((_datetime.toOrdinal y mo 1 - 719163 + d - 1) * 24 + h) * 60 + mi) * 60 + s
def TG (y mo d h mi s : Int) : Option Int := if 1970 ≤ y ∧ (1 ≤ mo ∧ mo ≤ 12) ∧ (1 ≤ d ∧ d ≤ 31) ∧ (0 ≤ h ∧ h ≤ 24) ∧ (0 ≤ mi ∧ mi ≤ 59) ∧ (0 ≤ s ∧ s ≤ 61) then some (secs y mo d h mi s) else none

section
variable {w : World} {mean : ExcName → Option Value} {mg mb : Str → Option Value} {loose : List Str} {dp un : Nat} {gd : Option (List Code)} {cn : Str} {cs : Scope} {a : Addr} {ccd : Value} {cl : List (Str × Addr)} {outer : List Env} {h₀ : Heap} {L : Addr} {m : Str → Option Value} {s : Shared} {Q E : Value → Shared → Prop} {news : List (Addr × Obj)}

theorem timegm_c {tp : Addr} {y mo d h mi se : Int} {t1 t2 t3 t4 t5 t6 : Tok} {tz : Value} (F : Fr h₀ L s.heap m) (X : (hd.heap_39 w.params).In h₀) (N : News h₀ L s.heap news) (T : Top hd.view_39 loose mean mg mb h₀)
    (hk : cs.kind = .function) (hdp : dp + 20 < recursionLimit) (hun : un + 100 < cLine) (hm : (tp, tupOf [.int y t1, .int mo t2, .int d t3, .int h t4, .int mi t5, .int se t6, tz]) ∈ news) (hy : 1 ≤ y ∧ y ≤ 9999) (hmo : 1 ≤ mo ∧ mo ≤ 12)
    (hret : Back h₀ L m news s Q (IsOI (some (secs y mo d h mi se)))) : wpAny (model PySem.Challenge.rw_ec5008_02.row.prog w) (ktrTop dp un gd cn cs L a ccd cl outer) (call (.ref 69) [.ref tp]) Q E s := by
  revert X; k_fill; intro X
  refine wpAny_call ?_
  k_dflt (refine' code_c ?F ?X ?N ?T ?o ?c ?r ?b ?l ?_ ?c2 ?c3 ?c4 ?c5; (case F => k_asm); (case X => k_asm); (case N => k_asm); (case T => k_asm); (case o => k_is); (case c => k_is); (case r => ktr_room); (case b => exact BindsTo.of_eq rfl); (case l => exact locs rfl); (case c2 => exact rfl); (case c3 => exact rfl); (case c4 => exact rfl); (case c5 => decide))
  intro L' oL h₁ tk C ne F' N'
  (try dsimp only); (try k_fold)
  k_steps
  all_goals (refine' back_some hret rfl ?C ?ne ?F ?N ?hs; (case C => k_asm); (case ne => k_asm); (case F => k_asm); (case N => k_asm); (case hs => kcj_all))

local macro_rules | `(tactic| walk_at "call ref") => `(tactic| (k_here; (with_reducible show wpAny _ _ (call (Value.ref 69) _ _) _ _ _); k_dflt (refine' timegm_c ?F ?X ?N ?T ?k ?d ?u ?m ?y ?mo ?_; (case F => k_asm); (case X => k_asm); (case N => k_asm); (case T => k_asm); (case k => first | exact rfl | assumption); (case d => ktr_room); (case u => ktr_units); (case m => first | k_mem | ((repeat (refine List.mem_cons_of_mem _ ?_)); assumption)); (case y => omega); (case mo => omega)); intro v9 h9 tk9 hv9 F9 N9; (try dsimp only); obtain ⟨t9, e9⟩ := hv9; subst e9))

local macro_rules | `(tactic| walk_at "ite") => `(tactic| (k_here; (with_reducible refine split_dec ?_ ?_) <;> intro _))

theorem timegm2_c {tp : Addr} {y mo d h mi se : Int} {t1 t2 t3 t4 t5 t6 : Tok} {tz : Value} (F : Fr h₀ L s.heap m) (X : (hd.heap_39 w.params).In h₀) (N : News h₀ L s.heap news) (T : Top hd.view_39 loose mean mg mb h₀)
    (hk : cs.kind = .function) (hdp : dp + 30 < recursionLimit) (hun : un + 200 < cLine) (hm : (tp, tupOf [.int y t1, .int mo t2, .int d t3, .int h t4, .int mi t5, .int se t6, tz]) ∈ news) (hy : y ≤ 9999)
    (hret : Back h₀ L m news s Q (IsOI (TG y mo d h mi se))) : wpAny (model PySem.Challenge.rw_ec5008_02.row.prog w) (ktrTop dp un gd cn cs L a ccd cl outer) (call (.ref 76) [.ref tp]) Q E s := by
  revert X; k_fill; intro X
  refine wpAny_call ?_
  k_dflt (refine' code_c ?F ?X ?N ?T ?o ?c ?r ?b ?l ?_ ?c2 ?c3 ?c4 ?c5; (case F => k_asm); (case X => k_asm); (case N => k_asm); (case T => k_asm); (case o => k_is); (case c => k_is); (case r => ktr_room); (case b => exact BindsTo.of_eq rfl); (case l => exact locs rfl); (case c2 => exact rfl); (case c3 => exact rfl); (case c4 => exact rfl); (case c5 => decide))
  intro L' oL h₁ tk C ne F' N'
  (try dsimp only); (try k_fold)
  k_steps
  all_goals first
    | (refine' back_some hret ?e ?C ?ne ?F ?N ?hs; (case C => k_asm); (case ne => k_asm); (case F => k_asm); (case N => k_asm); (case hs => kcj_all); (case e => (unfold TG; rw [if_pos (by omega)])))
    | (refine' back_none hret ?e ?C ?ne ?F ?N ?hs; (case C => k_asm); (case ne => k_asm); (case F => k_asm); (case N => k_asm); (case hs => kcj_all); (case e => (unfold TG; rw [if_neg (by omega)])))
end
end Mine
end

section
local macro_rules | `(tactic| walk_at "none such") => `(tactic| fail)
local macro_rules | `(tactic| walk_at "none such") => `(tactic| fail)
local macro_rules | `(tactic| walk_at "none such") => `(tactic| fail)
local macro_rules | `(tactic| walk_at "none such") => `(tactic| fail)
local macro_rules | `(tactic| walk_at "none such") => `(tactic| fail)
local macro_rules | `(tactic| walk_at "none such") => `(tactic| fail)
local macro_rules | `(tactic| walk_at "none such") => `(tactic| fail)
local macro_rules | `(tactic| walk_at "none such") => `(tactic| fail)
local macro_rules | `(tactic| walk_at "none such") => `(tactic| fail)
local macro_rules | `(tactic| walk_at "none such") => `(tactic| fail)
local macro_rules | `(tactic| walk_at "none such") => `(tactic| fail)
local macro_rules | `(tactic| walk_at "none such") => `(tactic| fail)
local macro_rules | `(tactic| walk_at "none such") => `(tactic| fail)
local macro_rules | `(tactic| walk_at "none such") => `(tactic| fail)
local macro_rules | `(tactic| walk_at "none such") => `(tactic| fail)
local macro_rules | `(tactic| walk_at "none such") => `(tactic| fail)
local macro_rules | `(tactic| walk_at "none such") => `(tactic| fail)
local macro_rules | `(tactic| walk_at "none such") => `(tactic| fail)
local macro_rules | `(tactic| walk_at "none such") => `(tactic| fail)
local macro_rules | `(tactic| walk_at "none such") => `(tactic| fail)
local macro_rules | `(tactic| walk_at "none such") => `(tactic| fail)
set_option rowWalk.seconds 0
theorem Mine.wOff23 : True := by
  w_top off
  trivial
open PySem PySem.W PyProof.Rows
set_option Elab.async false
set_option linter.unusedVariables false
set_option maxRecDepth 100000
set_option maxHeartbeats 4000000
namespace Mine
open PySem.Builtin PySem.Builtin.Re PySem.Sre

local macro_rules | `(tactic| walk_at "execs cons") => `(tactic| (k_here; (with_reducible refine gen_cons ?_); intro tk; try dsimp only))
local macro_rules | `(tactic| walk_at "execs nil") => `(tactic| (k_here; (with_reducible refine gen_nil ?_); intro tk; try dsimp only))
local macro_rules | `(tactic| walk_at "getMethod ref") => `(tactic| (k_here; k_dflt (refine' get_search ?P ?_; (case P => exact isPat_K (by k_in) (by k_is) (by k_is) (by rfl)))))
local macro_rules | `(tactic| walk_at "getMethod ref") => `(tactic| (k_here; k_dflt (refine' get_group ?N ?m ?_; (case N => k_asm); (case m => first | k_mem | ((repeat (refine List.mem_cons_of_mem _ ?_)); assumption)))))
local macro_rules | `(tactic| walk_at "call builtin:re.Pattern.search") => `(tactic| (k_here; (with_reducible show wpAny _ _ (call _ [Value.ref 88, _] _) _ _ _); k_dflt (first
  | (refine' call_search_none ?F ?N ?P ?r ?x (tz_found ?x2 ?co) ?c ?g ?_; (case F => k_asm); (case N => k_asm); (case P => exact isPat_K (by k_in) (by k_is) (by k_is) (by rfl)); (case r => assumption); (case x => assumption); (case x2 => assumption); (case co => assumption); (case c => omega); (case g => decide))
  | (refine' call_search_some ?F ?N ?P ?r ?x (tz_found ?x2 ?co) ?c ?g ?k ?_; (case F => k_asm); (case N => k_asm); (case P => exact isPat_K (by k_in) (by k_is) (by k_is) (by rfl)); (case r => assumption); (case x => assumption); (case x2 => assumption); (case co => assumption); (case c => omega); (case g => decide); (case k => assumption); intro mt' sp' li' h' F' N' l1 l2; (try k_lt l1); (try k_lt2 l2); (try k_sweep)))))
local macro_rules | `(tactic| walk_at "call builtin:re.Match.group") => `(tactic| (k_here; k_dflt (first
  | (refine' call_group_some ?N ?m ?s ?i ?x ?k ?o ?_; (case N => k_asm); (case m => first | k_mem | ((repeat (refine List.mem_cons_of_mem _ ?_)); assumption)); (case s => first | k_mem | ((repeat (refine List.mem_cons_of_mem _ ?_)); assumption)); (case i => rfl); (case x => assumption); (case k => decide); (case o => assumption); intro tk' t')
  | (refine' call_group_none ?N ?m ?s ?i ?x ?k ?o ?_; (case N => k_asm); (case m => first | k_mem | ((repeat (refine List.mem_cons_of_mem _ ?_)); assumption)); (case s => first | k_mem | ((repeat (refine List.mem_cons_of_mem _ ?_)); assumption)); (case i => rfl); (case x => assumption); (case k => decide); (case o => assumption); intro tk'))))
local macro_rules | `(tactic| walk_at "compareOp In str ref") => `(tactic| (k_here; k_dflt (refine' in_utc ?F ?X ?l ?o ?b ?_; (case F => k_asm); (case X => k_asm); (case l => k_is); (case o => decide); (case b => assumption))))
local macro_rules | `(tactic| walk_at "truthy ref") => `(tactic| (k_here; k_dflt (refine' truthy_match ?N ?m ?_; (case N => k_asm); (case m => first | k_mem | ((repeat (refine List.mem_cons_of_mem _ ?_)); assumption)))))
local macro_rules | `(tactic| walk_at "truthy str") => `(tactic| (k_here; k_dflt (refine' truthy_str1 ?a ?b ?_; (case a => assumption); (case b => assumption); intro tk')))
local macro_rules | `(tactic| walk_at "call type:int") => `(tactic| (k_here; (with_reducible show wpAny _ _ (call (Value.type "int") [Value.str _ _]) _ _ _); k_dflt (refine' KIN.call_text ?a ?b ?_; (case a => assumption); (case b => assumption))))

section
variable {w : World} {mean : ExcName → Option Value} {mg mb : Str → Option Value} {loose : List Str} {dp un : Nat} {gd : Option (List Code)} {cn : Str} {cs : Scope} {a : Addr} {ccd : Value} {cl : List (Str × Addr)} {outer : List Env} {h₀ : Heap} {L : Addr} {m : Str → Option Value} {s : Shared} {Q E : Value → Shared → Prop} {news : List (Addr × Obj)}

theorem zone0_c {x : PySem.Str} {t : Tok} (F : Fr h₀ L s.heap m) (X : (hd.heap_39 w.params).In h₀) (N : News h₀ L s.heap news) (T : Top hd.view_39 loose mean mg mb h₀)
    (hk : cs.kind = .function) (hdp : dp + 20 < recursionLimit) (hun : un + 100 < cLine) (hu : utcName x = true)
    (hret : Back h₀ L m news s Q (IsOI (some 0))) : wpAny (model PySem.Challenge.rw_ec5008_02.row.prog w) (ktrTop dp un gd cn cs L a ccd cl outer) (call (.ref 95) [.str x t]) Q E s := by
  revert X; k_fill; intro X
  refine wpAny_call ?_
  k_dflt (refine' code_c ?F ?X ?N ?T ?o ?c ?r ?b ?l ?_ ?c2 ?c3 ?c4 ?c5; (case F => k_asm); (case X => k_asm); (case N => k_asm); (case T => k_asm); (case o => k_is); (case c => k_is); (case r => ktr_room); (case b => exact BindsTo.of_eq rfl); (case l => exact locs rfl); (case c2 => exact rfl); (case c3 => exact rfl); (case c4 => exact rfl); (case c5 => decide))
  intro L' oL h₁ tk C ne F' N'
  (try dsimp only); (try k_fold)
  k_steps
  all_goals (refine' back_some hret ?e ?C ?ne ?F ?N ?hs; (case C => k_asm); (case ne => k_asm); (case F => k_asm); (case N => k_asm); (case hs => kcj_all); (case e => rfl))

theorem zone1_c {x : PySem.Str} {t : Tok} (F : Fr h₀ L s.heap m) (X : (hd.heap_39 w.params).In h₀) (N : News h₀ L s.heap news) (T : Top hd.view_39 loose mean mg mb h₀)
    (hk : cs.kind = .function) (hdp : dp + 20 < recursionLimit) (hun : un + 100 < cLine) (hu : utcName x = false) (hx : x.cps.size < 65536) (hco : ∀ q, ch x.cps isCo q = false) (hg : gTZ x.cps = none)
    (hret : Back h₀ L m news s Q (IsOI none)) : wpAny (model PySem.Challenge.rw_ec5008_02.row.prog w) (ktrTop dp un gd cn cs L a ccd cl outer) (call (.ref 95) [.str x t]) Q E s := by
  revert X; k_fill; intro X
  refine wpAny_call ?_
  k_dflt (refine' code_c ?F ?X ?N ?T ?o ?c ?r ?b ?l ?_ ?c2 ?c3 ?c4 ?c5; (case F => k_asm); (case X => k_asm); (case N => k_asm); (case T => k_asm); (case o => k_is); (case c => k_is); (case r => ktr_room); (case b => exact BindsTo.of_eq rfl); (case l => exact locs rfl); (case c2 => exact rfl); (case c3 => exact rfl); (case c4 => exact rfl); (case c5 => decide))
  intro L' oL h₁ tk C ne F' N'
  (try dsimp only); (try k_fold)
  k_steps
  all_goals (refine' back_none hret ?e ?C ?ne ?F ?N ?hs; (case C => k_asm); (case ne => k_asm); (case F => k_asm); (case N => k_asm); (case hs => kcj_all); (case e => rfl))

def zval (sg : Option PySem.Str) (mm : Option PySem.Str) (a b : Int) : Int :=
  let o := match mm with | some _ => 3600 * a + 60 * b | none => 3600 * a
  match sg with | some y => (if (y == ("-" : PySem.Str)) = true then -o else o) | none => o

theorem zone2_c {x hh : PySem.Str} {t : Tok} {g : Got} {sg mm : Option PySem.Str} {a1 b1 : Int} (F : Fr h₀ L s.heap m) (X : (hd.heap_39 w.params).In h₀) (N : News h₀ L s.heap news) (T : Top hd.view_39 loose mean mg mb h₀)
    (hk : cs.kind = .function) (hdp : dp + 20 < recursionLimit) (hun : un + 100 < cLine) (hu : utcName x = false) (hx : x.cps.size < 65536) (hco : ∀ q, ch x.cps isCo q = false) (hg : gTZ x.cps = some g)
    (hok : ∀ k b e, grp g k = some (b, e) → b ≤ e) (e1 : txt x (grp g 0) = sg) (e2 : txt x (grp g 1) = some hh) (e3 : txt x (grp g 2) = mm) (ha : PySem.intText? hh = some a1) (hla : hh.length ≤ 640)
    (hb : ∀ y, mm = some y → PySem.intText? y = some b1 ∧ y.length ≤ 640 ∧ y.cps.size ≠ 0 ∧ y.cps.size < 65536)
    (hret : Back h₀ L m news s Q (IsOI (some (zval sg mm a1 b1)))) : wpAny (model PySem.Challenge.rw_ec5008_02.row.prog w) (ktrTop dp un gd cn cs L a ccd cl outer) (call (.ref 95) [.str x t]) Q E s := by
  revert X; k_fill; intro X
  cases mm with
  | none =>
    clear hb
    cases sg with
    | none =>
      refine wpAny_call ?_
      k_dflt (refine' code_c ?F ?X ?N ?T ?o ?c ?r ?b ?l ?_ ?c2 ?c3 ?c4 ?c5; (case F => k_asm); (case X => k_asm); (case N => k_asm); (case T => k_asm); (case o => k_is); (case c => k_is); (case r => ktr_room); (case b => exact BindsTo.of_eq rfl); (case l => exact locs rfl); (case c2 => exact rfl); (case c3 => exact rfl); (case c4 => exact rfl); (case c5 => decide))
      intro L' oL h₁ tk C ne F' N'
      (try dsimp only); (try k_fold)
      k_steps
      all_goals (refine' back_some hret ?e ?C ?ne ?F ?N ?hs; (case C => k_asm); (case ne => k_asm); (case F => k_asm); (case N => k_asm); (case hs => kcj_all); (case e => rfl))
    | some y =>
      refine wpAny_call ?_
      k_dflt (refine' code_c ?F ?X ?N ?T ?o ?c ?r ?b ?l ?_ ?c2 ?c3 ?c4 ?c5; (case F => k_asm); (case X => k_asm); (case N => k_asm); (case T => k_asm); (case o => k_is); (case c => k_is); (case r => ktr_room); (case b => exact BindsTo.of_eq rfl); (case l => exact locs rfl); (case c2 => exact rfl); (case c3 => exact rfl); (case c4 => exact rfl); (case c5 => decide))
      intro L' oL h₁ tk C ne F' N'
      (try dsimp only); (try k_fold)
      k_steps
      all_goals (refine' back_some hret ?e ?C ?ne ?F ?N ?hs; (case C => k_asm); (case ne => k_asm); (case F => k_asm); (case N => k_asm); (case hs => kcj_all); (case e => (unfold zval; simp_all)))
  | some z =>
    obtain ⟨hb1, hb2, hb3, hb4⟩ := hb z rfl
    clear hb
    cases sg with
    | none =>
      refine wpAny_call ?_
      k_dflt (refine' code_c ?F ?X ?N ?T ?o ?c ?r ?b ?l ?_ ?c2 ?c3 ?c4 ?c5; (case F => k_asm); (case X => k_asm); (case N => k_asm); (case T => k_asm); (case o => k_is); (case c => k_is); (case r => ktr_room); (case b => exact BindsTo.of_eq rfl); (case l => exact locs rfl); (case c2 => exact rfl); (case c3 => exact rfl); (case c4 => exact rfl); (case c5 => decide))
      intro L' oL h₁ tk C ne F' N'
      (try dsimp only); (try k_fold)
      k_steps
      all_goals (refine' back_some hret ?e ?C ?ne ?F ?N ?hs; (case C => k_asm); (case ne => k_asm); (case F => k_asm); (case N => k_asm); (case hs => kcj_all); (case e => rfl))
    | some y =>
      refine wpAny_call ?_
      k_dflt (refine' code_c ?F ?X ?N ?T ?o ?c ?r ?b ?l ?_ ?c2 ?c3 ?c4 ?c5; (case F => k_asm); (case X => k_asm); (case N => k_asm); (case T => k_asm); (case o => k_is); (case c => k_is); (case r => ktr_room); (case b => exact BindsTo.of_eq rfl); (case l => exact locs rfl); (case c2 => exact rfl); (case c3 => exact rfl); (case c4 => exact rfl); (case c5 => decide))
      intro L' oL h₁ tk C ne F' N'
      (try dsimp only); (try k_fold)
      k_steps
      all_goals (refine' back_some hret ?e ?C ?ne ?F ?N ?hs; (case C => k_asm); (case ne => k_asm); (case F => k_asm); (case N => k_asm); (case hs => kcj_all); (case e => (unfold zval; simp_all)))
end
end Mine
end

section
local macro_rules | `(tactic| walk_at "none such") => `(tactic| fail)
local macro_rules | `(tactic| walk_at "none such") => `(tactic| fail)
local macro_rules | `(tactic| walk_at "none such") => `(tactic| fail)
local macro_rules | `(tactic| walk_at "none such") => `(tactic| fail)
local macro_rules | `(tactic| walk_at "none such") => `(tactic| fail)
local macro_rules | `(tactic| walk_at "none such") => `(tactic| fail)
local macro_rules | `(tactic| walk_at "none such") => `(tactic| fail)
local macro_rules | `(tactic| walk_at "none such") => `(tactic| fail)
local macro_rules | `(tactic| walk_at "none such") => `(tactic| fail)
local macro_rules | `(tactic| walk_at "none such") => `(tactic| fail)
local macro_rules | `(tactic| walk_at "none such") => `(tactic| fail)
local macro_rules | `(tactic| walk_at "none such") => `(tactic| fail)
local macro_rules | `(tactic| walk_at "none such") => `(tactic| fail)
local macro_rules | `(tactic| walk_at "none such") => `(tactic| fail)
local macro_rules | `(tactic| walk_at "none such") => `(tactic| fail)
local macro_rules | `(tactic| walk_at "none such") => `(tactic| fail)
local macro_rules | `(tactic| walk_at "none such") => `(tactic| fail)
local macro_rules | `(tactic| walk_at "none such") => `(tactic| fail)
local macro_rules | `(tactic| walk_at "none such") => `(tactic| fail)
local macro_rules | `(tactic| walk_at "none such") => `(tactic| fail)
local macro_rules | `(tactic| walk_at "none such") => `(tactic| fail)
local macro_rules | `(tactic| walk_at "none such") => `(tactic| fail)
local macro_rules | `(tactic| walk_at "none such") => `(tactic| fail)
local macro_rules | `(tactic| walk_at "none such") => `(tactic| fail)
local macro_rules | `(tactic| walk_at "none such") => `(tactic| fail)
local macro_rules | `(tactic| walk_at "none such") => `(tactic| fail)
local macro_rules | `(tactic| walk_at "none such") => `(tactic| fail)
local macro_rules | `(tactic| walk_at "none such") => `(tactic| fail)
local macro_rules | `(tactic| walk_at "none such") => `(tactic| fail)
local macro_rules | `(tactic| walk_at "none such") => `(tactic| fail)
local macro_rules | `(tactic| walk_at "none such") => `(tactic| fail)
local macro_rules | `(tactic| walk_at "none such") => `(tactic| fail)
set_option rowWalk.seconds 0
theorem Mine.wOff24 : True := by
  w_top off
  trivial
open PySem PySem.W PyProof.Rows
set_option Elab.async false
set_option linter.unusedVariables false
set_option maxRecDepth 100000
set_option maxHeartbeats 4000000
namespace Mine
open PySem.Builtin PySem.Builtin.Re PySem.Sre

local macro_rules | `(tactic| walk_at "execs cons") => `(tactic| (k_here; (with_reducible refine gen_cons ?_); intro tk; try dsimp only))
local macro_rules | `(tactic| walk_at "execs nil") => `(tactic| (k_here; (with_reducible refine gen_nil ?_); intro tk; try dsimp only))
local macro_rules | `(tactic| walk_at "call type:int") => `(tactic| (k_here; (with_reducible show wpAny _ _ (call (Value.type "int") [Value.str _ _]) _ _ _); k_dflt (refine' KIN.call_text ?a ?b ?_; (case a => assumption); (case b => assumption))))
local macro_rules | `(tactic| walk_at "ite") => `(tactic| (k_here; (with_reducible refine split_dec ?_ ?_) <;> (intro _; try (exfalso; omega))))

local macro_rules | `(tactic| walk_at "getMethod ref") => `(tactic| (k_here; (with_reducible show wpAny _ _ (getMethod (Value.ref 79) _ _) _ _ _); k_dflt (refine' get_index ?F ?X ?m ?_; (case F => k_asm); (case X => k_asm); (case m => k_is))))
local macro_rules | `(tactic| walk_at "call builtin:list.index") => `(tactic| (k_here; (with_reducible show wpAny _ _ (call _ [Value.ref 79, Value.str _ _]) _ _ _); k_dflt (refine' call_index ?F ?X ?m ?i ?e ?z ?_; (case F => k_asm); (case X => k_asm); (case m => k_is); (case i => exact rfl); (case e => assumption); (case z => exact Nat.le_of_ble_eq_true rfl))))
local macro_rules | `(tactic| walk_at "call builtin:str.lower") => `(tactic| (k_here; (with_reducible show wpAny _ _ (call _ [Value.str _ _]) _ _ _); (refine SCL.lower (by assumption) ?_; intro _)))
local macro_rules | `(tactic| walk_at "call builtin:str.upper") => `(tactic| (k_here; (with_reducible show wpAny _ _ (call _ [Value.str _ _]) _ _ _); (refine SCL.upper (by first | assumption | exact Nat.le_of_ble_eq_true rfl) ?_; intro _)))
local macro_rules | `(tactic| walk_at "call ref") => `(tactic| (k_here; (with_reducible show wpAny _ _ (call (Value.ref 76) _ _) _ _ _); k_dflt (refine' timegm2_c ?F ?X ?N ?T ?k ?d ?u ?m ?y ?_; (case F => k_asm); (case X => k_asm); (case N => k_asm); (case T => k_asm); (case k => first | exact rfl | assumption); (case d => ktr_room); (case u => ktr_units); (case m => first | k_mem | ((repeat (refine List.mem_cons_of_mem _ ?_)); assumption)); (case y => omega)); intro v9 h9 tk9 hv9 F9 N9; (try dsimp only); (first | (obtain ⟨t9, e9⟩ := isOI_some hv9 (by assumption); subst e9) | (have e9 := isOI_none hv9 (by assumption); subst e9))))
local macro_rules | `(tactic| walk_at "call ref") => `(tactic| (k_here; (with_reducible show wpAny _ _ (call (Value.ref 95) _ _) _ _ _); k_dflt (refine' zone0_c ?F ?X ?N ?T ?k ?d ?u ?z ?_; (case F => k_asm); (case X => k_asm); (case N => k_asm); (case T => k_asm); (case k => first | exact rfl | assumption); (case d => ktr_room); (case u => ktr_units); (case z => decide +kernel)); intro v9 h9 tk9 hv9 F9 N9; (try dsimp only); obtain ⟨t9, e9⟩ := hv9; subst e9))

section
variable {w : World} {mean : ExcName → Option Value} {mg mb : Str → Option Value} {loose : List Str} {dp un : Nat} {gd : Option (List Code)} {cn : Str} {cs : Scope} {a : Addr} {ccd : Value} {cl : List (Str × Addr)} {outer : List Env} {h₀ : Heap} {L : Addr} {m : Str → Option Value} {s : Shared} {Q E : Value → Shared → Prop} {news : List (Addr × Obj)}

theorem str2time0_c {dy mo yr : PySem.Str} {t1 t2 t3 : Tok} {d y g : Int} {k : Nat} (F : Fr h₀ L s.heap m) (X : (hd.heap_39 w.params).In h₀) (N : News h₀ L s.heap news) (T : Top hd.view_39 loose mean mg mb h₀)
    (hk : cs.kind = .function) (hdp : dp + 40 < recursionLimit) (hun : un + 300 < cLine) (hy : PySem.intText? yr = some y) (hy2 : yr.length ≤ 640) (hd : PySem.intText? dy = some d) (hd2 : dy.length ≤ 640)
    (hmo : monIdx (Txt.lower mo) = some k) (hmo2 : mo.length ≤ 5592405) (hy3 : 1000 ≤ y) (hy4 : y ≤ 9999) (hgm : TG y ((k : Int) + 1) d 0 0 0 = some g)
    (hret : Back h₀ L m news s Q (IsOI (some g))) : wpAny (model PySem.Challenge.rw_ec5008_02.row.prog w) (ktrTop dp un gd cn cs L a ccd cl outer) (call (.ref 116) [.str dy t1, .str mo t2, .str yr t3, .none, .none, .none, .none]) Q E s := by
  revert X; k_fill; intro X
  refine wpAny_call ?_
  k_dflt (refine' code_c ?F ?X ?N ?T ?o ?c ?r ?b ?l ?_ ?c2 ?c3 ?c4 ?c5; (case F => k_asm); (case X => k_asm); (case N => k_asm); (case T => k_asm); (case o => k_is); (case c => k_is); (case r => ktr_room); (case b => exact BindsTo.of_eq rfl); (case l => exact locs rfl); (case c2 => exact rfl); (case c3 => exact rfl); (case c4 => exact rfl); (case c5 => decide))
  intro L' oL h₁ tk C ne F' N'
  (try dsimp only); (try k_fold)
  k_steps
  all_goals try (exfalso; omega)
  all_goals (refine' back_some hret ?e ?C ?ne ?F ?N ?hs; (case C => k_asm); (case ne => k_asm); (case F => k_asm); (case N => k_asm); (case hs => kcj_all); (case e => simp))
end
end Mine
end

section
open PySem PySem.W PyProof.Rows
set_option Elab.async false
set_option linter.unusedVariables false
namespace Mine
open PySem.Sre

/-- what stands in the text from a place on -/
def At (t : Array Nat) (p : Nat) (B : List Nat) : Prop := p + B.length = t.size ∧ t.toList.drop p = B
theorem At.all (t : Array Nat) : At t 0 t.toList := ⟨by simp, by simp⟩
theorem At.of {t : Array Nat} {B : List Nat} (h : t.toList = B) : At t 0 B := by subst h; exact At.all t
theorem At.skip {t : Array Nat} {p : Nat} {A B : List Nat} (h : At t p (A ++ B)) : At t (p + A.length) B := by
  obtain ⟨h1, h2⟩ := h
  refine ⟨by rw [List.length_append] at h1; omega, ?_⟩
  rw [← List.drop_drop, h2]
  simp
theorem At.tail {t : Array Nat} {p c : Nat} {B : List Nat} (h : At t p (c :: B)) : At t (p + 1) B := h.skip (A := [c])
theorem At.getD {t : Array Nat} {p c : Nat} {B : List Nat} (h : At t p (c :: B)) : p < t.size ∧ t.getD p 0 = c := by
  obtain ⟨h1, h2⟩ := h
  rw [List.length_cons] at h1
  refine ⟨by omega, ?_⟩
  have e : t.toList[p]? = some c := by
    have : (t.toList.drop p)[0]? = some c := by rw [h2]; rfl
    rwa [List.getElem?_drop, Nat.add_zero] at this
  rw [Array.getD_eq_getD_getElem?, ← Array.getElem?_toList, e]
  rfl
theorem At.ch {t : Array Nat} {p c : Nat} {B : List Nat} {f : Nat → Bool} (h : At t p (c :: B)) : ch t f p = f c := by
  unfold Mine.ch
  rw [h.getD.2, decide_eq_true h.getD.1, Bool.true_and]
theorem At.ch_nil {t : Array Nat} {p : Nat} {f : Nat → Bool} (h : At t p []) : Mine.ch t f p = false := by
  unfold Mine.ch
  obtain ⟨h1, _⟩ := h
  rw [decide_eq_false (by simp at h1; omega), Bool.false_and]
/-- no sign of the kind opens it -/
def NoHead (f : Nat → Bool) (B : List Nat) : Prop := match B with
  | [] => True
  | c :: _ => f c = false
theorem At.ch_no {t : Array Nat} {p : Nat} {B : List Nat} {f : Nat → Bool} (h : At t p B) (n : NoHead f B) : Mine.ch t f p = false := by
  cases B with
  | nil => exact h.ch_nil
  | cons c r => rw [h.ch]; exact n
theorem At.span0 {t : Array Nat} {p : Nat} {B : List Nat} {f : Nat → Bool} (h : At t p B) (n : NoHead f B) : span t f p = 0 := by
  have := h.ch_no n
  unfold span
  cases e : t.size - p with
  | zero => rfl
  | succ k => unfold spanN; rw [this]; rfl
theorem span_step {t : Array Nat} {p : Nat} {f : Nat → Bool} (h : Mine.ch t f p = true) : span t f p = span t f (p + 1) + 1 := by
  have hp : p < t.size := by
    unfold Mine.ch at h
    simp only [Bool.and_eq_true, decide_eq_true_eq] at h
    exact h.1
  unfold span
  rw [show t.size - p = (t.size - (p + 1)) + 1 by omega]
  conv => lhs; unfold spanN
  rw [h]; rfl
theorem At.span {t : Array Nat} {f : Nat → Bool} : ∀ {A : List Nat} {p : Nat} {B : List Nat}, At t p (A ++ B) → (∀ c ∈ A, f c = true) → NoHead f B → span t f p = A.length
  | [], p, B, h, _, n => h.span0 n
  | c :: A, p, B, h, ha, n => by
    have h1 : At t p (c :: (A ++ B)) := h
    rw [span_step (by rw [h1.ch]; exact ha c (List.mem_cons_self ..)), At.span h1.tail (fun d hd => ha d (List.mem_cons_of_mem _ hd)) n]
    rfl
theorem At.size {t : Array Nat} {p : Nat} (h : At t p []) : p = t.size := by have := h.1; simpa using this
theorem At.lt {t : Array Nat} {p c : Nat} {B : List Nat} (h : At t p (c :: B)) : p < t.size := h.getD.1
theorem At.eot_nil {t : Array Nat} {p : Nat} (h : At t p []) : eot t p = true := by
  unfold eot; rw [h.size]; simp
/-- the piece between two places -/
theorem At.piece {t : Array Nat} {p : Nat} {A B : List Nat} (h : At t p (A ++ B)) : (t.extract p (p + A.length)).toList = A := by
  obtain ⟨h1, h2⟩ := h
  rw [Array.toList_extract, List.extract_eq_drop_take, h2]
  simp
end Mine
end

section
open PySem PySem.W PyProof.Rows
set_option Elab.async false
set_option linter.unusedVariables false
namespace Mine
open PySem.Sre

/-- a mark between the parts of a date -/
def Mk (S : List Nat) : Prop := (S ≠ [] ∧ ∀ c ∈ S, isSpace c = true) ∨ S = [45] ∨ S = [47]

theorem gSp_mark {t : Array Nat} {p : Nat} {S B : List Nat} {k : Nat → Option Got} (h : At t p (S ++ B)) (hS : Mk S) (hB : NoHead isSpace B) : gSp t k p = k (p + S.length) := by
  unfold gSp sp
  rcases hS with ⟨h1, h2⟩ | rfl | rfl
  · rw [h.span h2 hB]
    cases S with
    | nil => exact absurd rfl h1
    | cons c r =>
      have hc : isSpace c = true := h2 c (List.mem_cons_self ..)
      have hs : isSep c = false := by
        unfold isSpace at hc
        unfold isSep
        simp only [Bool.or_eq_true, Bool.and_eq_true, decide_eq_true_eq, beq_iff_eq] at hc
        simp only [Bool.or_eq_false_iff, beq_eq_false_iff_ne]
        omega
      have h3 : ch t isSep p = false := h.ch_no (B := (c :: r) ++ B) hs
      rw [if_pos (by simp), h3]
      simp
  · have h3 : ch t isSep p = true := (At.ch (B := B) h)
    rw [h.span0 (show NoHead isSpace ([45] ++ B) from rfl), h3]
    simp
  · have h3 : ch t isSep p = true := (At.ch (B := B) h)
    rw [h.span0 (show NoHead isSpace ([47] ++ B) from rfl), h3]
    simp

theorem noHead_app {f : Nat → Bool} : ∀ {S B : List Nat}, S ≠ [] → NoHead f S → NoHead f (S ++ B)
  | [], _, h, _ => absurd rfl h
  | _ :: _, _, _, n => n
theorem Mk.ne {S : List Nat} (h : Mk S) : S ≠ [] := by
  rcases h with ⟨h, _⟩ | rfl | rfl
  · exact h
  · decide
  · decide
theorem Mk.no {f : Nat → Bool} {S : List Nat} (h : Mk S) (hf : ∀ c, isSpace c = true → f c = false) (h1 : f 45 = false) (h2 : f 47 = false) : NoHead f S := by
  rcases h with ⟨a, b⟩ | rfl | rfl
  · cases S with
    | nil => exact absurd rfl a
    | cons c r => exact hf c (b c (List.mem_cons_self ..))
  · exact h1
  · exact h2
theorem Mk.word {S : List Nat} (h : Mk S) : NoHead isWord S := h.no (fun _ => space_word) rfl rfl
theorem Mk.digit {S : List Nat} (h : Mk S) : NoHead isDigit S := h.no (fun _ => space_digit) rfl rfl
theorem head_no {f g : Nat → Bool} {W B : List Nat} (hW : W ≠ []) (h : ∀ c ∈ W, g c = true) (hg : ∀ c, g c = true → f c = false) : NoHead f (W ++ B) := by
  cases W with
  | nil => exact absurd rfl hW
  | cons c r => exact hg c (h c (List.mem_cons_self ..))

/-- the marks behind a date's three parts -/
def vDate (d w we y ye : Nat) : Nat → Option Nat := setV (setV (setV (setV (setV (setV (fun _ => none) (-1) 0 0) 0 1 d) 1 2 w) 2 3 we) 3 4 y) 4 5 ye

theorem gD_date {t : Array Nat} {D S W Z Y R : List Nat} (h : t.toList = D ++ (S ++ (W ++ (Z ++ (Y ++ R))))) (hD : D.length = 1 ∨ D.length = 2) (hDd : ∀ c ∈ D, isDigit c = true) (hS : Mk S) (hW : W ≠ []) (hWw : ∀ c ∈ W, isWord c = true)
    (hZ : Mk Z) (hY : Y ≠ []) (hYd : ∀ c ∈ Y, isDigit c = true) (hR : NoHead isDigit R) :
    gD t = gC t (vDate D.length (D.length + S.length) (D.length + S.length + W.length) (D.length + S.length + W.length + Z.length) (D.length + S.length + W.length + Z.length + Y.length)) (D.length + S.length + W.length + Z.length + Y.length) := by
  have a0 : At t 0 (D ++ (S ++ (W ++ (Z ++ (Y ++ R))))) := At.of h
  have a1 : At t D.length (S ++ (W ++ (Z ++ (Y ++ R)))) := by have := a0.skip; rwa [Nat.zero_add] at this
  have a2 := a1.skip
  have a3 := a2.skip
  have a4 := a3.skip
  have hd : dEnd t = D.length := by
    unfold dEnd
    cases D with
    | nil => simp at hD
    | cons c r =>
      have b1 : At t 1 (r ++ (S ++ (W ++ (Z ++ (Y ++ R))))) := by have := At.tail (c := c) (B := r ++ (S ++ (W ++ (Z ++ (Y ++ R))))) a0; rwa [Nat.zero_add] at this
      rw [b1.span (fun c hc => hDd c (List.mem_cons_of_mem _ hc)) (noHead_app hS.ne hS.digit)]
      simp only [List.length_cons] at hD ⊢
      omega
  unfold gD
  have hc0 : ch t isDigit 0 = true := by
    cases D with
    | nil => simp at hD
    | cons c r => rw [At.ch (c := c) (B := r ++ (S ++ (W ++ (Z ++ (Y ++ R))))) a0]; exact hDd c (List.mem_cons_self ..)
  rw [if_pos hc0, hd]
  unfold gD2
  rw [gSp_mark a1 hS (head_no hW hWw fun _ => word_space)]
  unfold gW
  rw [a2.span hWw (noHead_app hZ.ne hZ.word), if_pos (by cases W with | nil => exact absurd rfl hW | cons c r => simp)]
  unfold gW2
  rw [gSp_mark a3 hZ (head_no hY hYd fun c hc => word_space (digit_word hc))]
  unfold gY
  rw [a4.span hYd hR, if_pos (by cases Y with | nil => exact absurd rfl hY | cons c r => simp)]
  rfl

/-- nothing stands behind the year -/
theorem gC_end {t : Array Nat} {V : Nat → Option Nat} {p : Nat} (h : At t p []) : gC t V p = some ⟨t.size, 5, V⟩ := by
  unfold gC gCB gT1 gT0 gZB zd zl ampm t2 paren sp
  have s0 : ∀ f, span t f p = 0 := fun f => h.span0 trivial
  have c0 : ∀ f, ch t f p = false := fun f => h.ch_nil
  simp only [s0, c0, Nat.add_zero, Nat.min_zero, h.eot_nil]
  rw [h.size]
  simp
end Mine
end

section
open PySem PySem.W PyProof.Rows
set_option Elab.async false
set_option linter.unusedVariables false
namespace Mine
open PySem.Sre PySem.NumText PySem.Builtin.Str

theorem str_digits {cs : List Nat} {n : Nat} (h : AllDigits cs) (hn : n + 1 = cs.length) (h0 : n = 0 ∨ ∃ c r, cs = c :: r ∧ 49 ≤ c) : PySem.Str.ofString (toString ((digitsVal cs : Nat) : Int)) = ⟨cs.toArray⟩ := by
  rw [PySem.Str.ofString_eq_toList]
  have e : (toString ((digitsVal cs : Nat) : Int)).toList = cs.map Char.ofNat := by
    rw [← toDigits_digitsVal n cs hn.symm h h0]
    show (String.ofList (Nat.toDigits 10 (digitsVal cs))).toList = _
    rw [String.toList_ofList]
  rw [e, List.map_map]
  congr 2
  have : ∀ c ∈ cs, (Char.toNat ∘ Char.ofNat) c = c := by
    intro c hc
    have := h c hc
    show (Char.ofNat c).toNat = c
    exact (by decide : ∀ d : Fin 58, (Char.ofNat d.val).toNat = d.val) ⟨c, by omega⟩
  conv => rhs; rw [← List.map_id cs]
  exact List.map_congr_left this

/-- a day's figures -/
def dayCs (n : Nat) : List Nat := if n < 10 then [48 + n] else [48 + n / 10, 48 + n % 10]
def yearCs (n : Nat) : List Nat := [48 + n / 1000, 48 + n / 100 % 10, 48 + n / 10 % 10, 48 + n % 10]

theorem dayCs_len (n : Nat) : (dayCs n).length = 1 ∨ (dayCs n).length = 2 := by unfold dayCs; split <;> simp
theorem dayCs_dig {n : Nat} (h : n < 100) : AllDigits (dayCs n) := by
  unfold dayCs
  split
  · intro c hc; simp only [List.mem_cons, List.not_mem_nil, or_false] at hc; omega
  · intro c hc; simp only [List.mem_cons, List.not_mem_nil, or_false] at hc; omega
theorem dayCs_val {n : Nat} (h : n < 100) : digitsVal (dayCs n) = n := by
  unfold dayCs digitsVal
  split
  · simp only [List.foldl_cons, List.foldl_nil]; omega
  · simp only [List.foldl_cons, List.foldl_nil]; omega
theorem yearCs_dig {n : Nat} (h : n < 10000) : AllDigits (yearCs n) := by
  intro c hc; simp only [yearCs, List.mem_cons, List.not_mem_nil, or_false] at hc; omega
theorem yearCs_val {n : Nat} (h : n < 10000) : digitsVal (yearCs n) = n := by
  unfold yearCs digitsVal
  simp only [List.foldl_cons, List.foldl_nil]; omega
theorem str_day {d : Int} (h1 : 1 ≤ d) (h2 : d ≤ 31) : PySem.Str.ofString (toString d) = ⟨(dayCs d.toNat).toArray⟩ := by
  obtain ⟨n, rfl⟩ : ∃ n : Nat, d = n := ⟨d.toNat, by omega⟩
  simp only [Int.toNat_natCast]
  conv => lhs; rw [← dayCs_val (n := n) (by omega)]
  by_cases h : n < 10
  · exact str_digits (n := 0) (dayCs_dig (by omega)) (by unfold dayCs; rw [if_pos h]; rfl) (.inl rfl)
  · refine str_digits (n := 1) (dayCs_dig (by omega)) (by unfold dayCs; rw [if_neg h]; rfl) (.inr ⟨48 + n / 10, [48 + n % 10], by unfold dayCs; rw [if_neg h], by omega⟩)
theorem str_year {y : Int} (h1 : 1000 ≤ y) (h2 : y ≤ 9999) : PySem.Str.ofString (toString y) = ⟨(yearCs y.toNat).toArray⟩ := by
  obtain ⟨n, rfl⟩ : ∃ n : Nat, y = n := ⟨y.toNat, by omega⟩
  simp only [Int.toNat_natCast]
  conv => lhs; rw [← yearCs_val (n := n) (by omega)]
  exact str_digits (n := 3) (yearCs_dig (by omega)) rfl (.inr ⟨_, _, rfl, by omega⟩)
theorem digit_is {cs : List Nat} (h : AllDigits cs) : ∀ c ∈ cs, isDigit c = true := fun c hc => by
  have := h c hc
  unfold isDigit
  simp only [Bool.and_eq_true, decide_eq_true_eq]
  omega
theorem int_of {cs : List Nat} (h : AllDigits cs) (h1 : cs ≠ []) (h2 : cs.length ≤ 640) : PySem.intText? ⟨cs.toArray⟩ = some ((digitsVal cs : Nat) : Int) := by
  refine intText_digits h h1 ?_
  show cs.toArray.size ≤ 4300
  rw [List.size_toArray]; omega

theorem spS_eq (c : Nat) : spS ⟨#[c]⟩ = ((decide (9 ≤ c) && decide (c ≤ 13)) || (decide (28 ≤ c) && decide (c ≤ 32))) := by
  have h1 : ∀ a b : Nat, Spec.ltCps [a] [b] = decide (a < b) := fun a b => by
    simp [Spec.ltCps]
  unfold spS inR
  simp only [h1]
  rw [Bool.eq_iff_iff]
  simp only [Bool.or_eq_true, Bool.and_eq_true, Bool.not_eq_true', decide_eq_true_eq, decide_eq_false_iff_not]
  omega

/-- lstrip cuts the blanks ahead -/
theorem lstrip_of {x : PySem.Str} {B R : List Nat} (hx : x.cps.toList = B ++ R) (ha : ∀ c ∈ x.cps.toList, c < 128) (hB : ∀ c ∈ B, spS ⟨#[c]⟩ = true) (hR : NoHead (fun c => spS ⟨#[c]⟩) R) : Txt.lstrip x = ⟨R.toArray⟩ := by
  obtain ⟨lo, h1, h2, h3, h4⟩ := lstrip_cut ha
  have hl : x.length = B.length + R.length := by
    show x.cps.size = _
    rw [← Array.length_toList, hx, List.length_append]
  have gB : ∀ i (hi : i < B.length), x.cps.getD i 0 = B[i] := fun i hi => by
    rw [Array.getD_eq_getD_getElem?, ← Array.getElem?_toList, hx, List.getElem?_append_left hi, List.getElem?_eq_getElem hi]; rfl
  have e : lo = B.length := by
    rcases Nat.lt_trichotomy lo B.length with hlt | he | hgt
    · exfalso
      rcases h4 with h4 | h4
      · omega
      · rw [gB lo hlt, hB _ (List.getElem_mem hlt)] at h4; cases h4
    · exact he
    · exfalso
      have := h3 B.length hgt
      cases R with
      | nil => simp at hl; omega
      | cons c r =>
        have e0 : x.cps.getD B.length 0 = c := by
          rw [Array.getD_eq_getD_getElem?, ← Array.getElem?_toList, hx, List.getElem?_append_right (Nat.le_refl _)]; simp
        rw [e0] at this
        have h6 : spS ⟨#[c]⟩ = false := hR
        rw [h6] at this
        cases this
  subst e
  rw [h2]
  refine PySem.Str.ext' ?_
  show x.cps.extract B.length x.length = R.toArray
  apply Array.ext'
  rw [Array.toList_extract, List.extract_eq_drop_take, hx, hl]
  simp
theorem lstrip_id {x : PySem.Str} {c : Nat} {r : List Nat} (hx : x.cps.toList = c :: r) (ha : ∀ c ∈ x.cps.toList, c < 128) (hc : spS ⟨#[c]⟩ = false) : Txt.lstrip x = x := by
  rw [lstrip_of (B := []) (R := c :: r) hx ha (by simp) hc]
  refine PySem.Str.ext' ?_
  show (c :: r).toArray = x.cps
  rw [← hx]
end Mine
end

section
open PySem PySem.W PyProof.Rows
set_option Elab.async false
set_option linter.unusedVariables false
namespace Mine
open PySem.Sre PySem.NumText PySem.Builtin.Str

def capMonths : List PySem.Str := [PySem.Str.ofString "Jan", PySem.Str.ofString "Feb", PySem.Str.ofString "Mar", PySem.Str.ofString "Apr", PySem.Str.ofString "May", PySem.Str.ofString "Jun", PySem.Str.ofString "Jul", PySem.Str.ofString "Aug", PySem.Str.ofString "Sep", PySem.Str.ofString "Oct", PySem.Str.ofString "Nov", PySem.Str.ofString "Dec"]

theorem cap_len (k : Nat) : (capMonths.getD k PySem.Str.empty).length ≤ 3 := by
  by_cases h : k < 12
  · exact (by decide +kernel : ∀ k : Fin 12, (capMonths.getD k.val PySem.Str.empty).length ≤ 3) ⟨k, h⟩
  · rw [List.getD_eq_getElem?_getD, List.getElem?_eq_none (by show 12 ≤ k; omega)]
    exact Nat.zero_le _
theorem cap_low : ∀ k : Fin 12, monIdx ⟨(capMonths.getD k.val PySem.Str.empty).cps.map lo1⟩ = some k.val ∧ (∀ c ∈ (capMonths.getD k.val PySem.Str.empty).cps.toList, c < 128) ∧ (capMonths.getD k.val PySem.Str.empty).cps.toList.length = 3 ∧ (∀ c ∈ (capMonths.getD k.val PySem.Str.empty).cps.toList, isWord c = true) := by decide +kernel

theorem fac1 {x : PySem.Str} {c : Nat} {r : List Nat} (hx : x.cps.toList = c :: r) (hc : 48 ≤ c ∧ c ≤ 57) : gK x.cps = none := by
  have a0 : At x.cps 0 (c :: r) := At.of hx
  unfold gK wday wis
  have l : ∀ k, 58 ≤ k → lowIs k c = false := fun k hk => by
    unfold lowIs lowerAscii
    rw [if_neg (by simp; omega)]
    simp; omega
  simp only [a0.ch, l 115 (by decide), l 109 (by decide), l 116 (by decide), l 119 (by decide), l 102 (by decide), Bool.false_and, Bool.or_false]
  rfl

theorem ext_cs {x : PySem.Str} {b e : Nat} {cs : List Nat} (h : (x.cps.extract b e).toList = cs) : txt x (some (b, e)) = some ⟨cs.toArray⟩ := by
  unfold txt
  subst h
  rfl

/-- a date without a clock -/
theorem date_plain {x : PySem.Str} {D S W Z Y : List Nat} (h : x.cps.toList = D ++ (S ++ (W ++ (Z ++ (Y ++ []))))) (hD : D.length = 1 ∨ D.length = 2) (hDd : AllDigits D) (hS : Mk S) (hW : W ≠ []) (hWw : ∀ c ∈ W, isWord c = true)
    (hZ : Mk Z) (hY : Y ≠ []) (hYd : AllDigits Y) :
    ∃ g, gD x.cps = some g ∧ (∀ k b e, grp g k = some (b, e) → b ≤ e) ∧ Grs x g ⟨some ⟨D.toArray⟩, some ⟨W.toArray⟩, some ⟨Y.toArray⟩, none, none, none, none⟩ := by
  have a0 : At x.cps 0 (D ++ (S ++ (W ++ (Z ++ (Y ++ []))))) := At.of h
  have a1 : At x.cps D.length (S ++ (W ++ (Z ++ (Y ++ [])))) := by have := a0.skip; rwa [Nat.zero_add] at this
  have a2 := a1.skip
  have a3 := a2.skip
  have a4 := a3.skip
  have a5 := a4.skip
  refine ⟨_, (gD_date h hD (digit_is hDd) hS hW hWw hZ hY (digit_is hYd) trivial).trans (gC_end a5), ?_, ?_⟩
  · intro k b e hk
    unfold grp at hk
    match k with
    | 0 => simp [vDate, setV] at hk; omega
    | 1 => simp [vDate, setV] at hk; omega
    | 2 => simp [vDate, setV] at hk; omega
    | k + 3 => rw [if_neg (by show ¬ ((2 * (k + 3) + 1 : Nat) : Int) ≤ 5; omega)] at hk; cases hk
  · have p0 := a0.piece
    have p2 := a2.piece
    have p4 := a4.piece
    rw [Nat.zero_add] at p0
    refine ⟨ext_cs p0, ext_cs p2, ext_cs p4, rfl, rfl, rfl, rfl⟩
end Mine
end

section
open PySem PySem.W PyProof.Rows
set_option Elab.async false
set_option linter.unusedVariables false
namespace Mine
open PySem.Sre PySem.NumText PySem.Builtin.Str PySem.Builtin

/-- http2time reads it on the loose road, no weekday, no blank ahead -/
structure Loose0 (x : PySem.Str) (g : Got) (ds : G7) : Prop where
  hx : x.cps.size < 65536
  hx0 : 0 < x.cps.size
  hG : ch x.cps (·==71) 26 = true → ch x.cps (·==77) 27 = true → False
  hl : Txt.lstrip x = x
  hw : gK x.cps = none
  hg : gD x.cps = some g
  h5 : (gD x.cps).isSome = true → 5 ≤ x.cps.size
  hok : ∀ k b e, grp g k = some (b, e) → b ≤ e
  hgr : Grs x g ds

def dtxt (d mo y : Int) (mk : PySem.Str) : PySem.Str := PySem.Str.ofString (toString d) ++ mk ++ capMonths.getD (mo - 1).toNat PySem.Str.empty ++ mk ++ PySem.Str.ofString (toString y)

theorem mk_is {mk : PySem.Str} (h : mk = " " ∨ mk = "-" ∨ mk = "/") : ∃ c, mk.cps.toList = [c] ∧ c < 128 ∧ Mk [c] := by
  rcases h with rfl | rfl | rfl
  · exact ⟨32, by decide +kernel, by decide, .inl ⟨by decide, by decide⟩⟩
  · exact ⟨45, by decide +kernel, by decide, .inr (.inl rfl)⟩
  · exact ⟨47, by decide +kernel, by decide, .inr (.inr rfl)⟩
theorem cps_app (a b : PySem.Str) : (a ++ b).cps.toList = a.cps.toList ++ b.cps.toList := by rw [PySem.Str.cps_append, Array.toList_append]

theorem dtxt_loose {d mo y : Int} {mk : PySem.Str} (hd1 : 1 ≤ d) (hd2 : d ≤ 31) (hy1 : 1970 ≤ y) (hy2 : y ≤ 9999) (hmo1 : 1 ≤ mo) (hmo2 : mo ≤ 12) (hmk : mk = " " ∨ mk = "-" ∨ mk = "/") :
    ∃ g, Loose0 (dtxt d mo y mk) g ⟨some ⟨(dayCs d.toNat).toArray⟩, some (capMonths.getD (mo - 1).toNat PySem.Str.empty), some ⟨(yearCs y.toNat).toArray⟩, none, none, none, none⟩ := by
  obtain ⟨c, hc1, hc2, hc3⟩ := mk_is hmk
  obtain ⟨m1, m2, m3, m4⟩ := cap_low ⟨(mo - 1).toNat, by omega⟩
  simp only at m1 m2 m3 m4
  have hlist : (dtxt d mo y mk).cps.toList = dayCs d.toNat ++ ([c] ++ ((capMonths.getD (mo - 1).toNat PySem.Str.empty).cps.toList ++ ([c] ++ (yearCs y.toNat ++ [])))) := by
    unfold dtxt
    rw [cps_app, cps_app, cps_app, cps_app, str_day hd1 hd2, str_year (by omega) hy2, hc1]
    simp
  have dd := dayCs_dig (n := d.toNat) (by omega)
  have yd := yearCs_dig (n := y.toNat) (by omega)
  have dl := dayCs_len d.toNat
  obtain ⟨g, h1, h2, h3⟩ := date_plain hlist dl dd hc3 (by intro e; rw [e] at m3; cases m3) m4 hc3 (by unfold yearCs; simp) yd
  have hsz : (dtxt d mo y mk).cps.size = (dayCs d.toNat).length + 9 := by
    rw [← Array.length_toList, hlist]
    simp only [List.length_append, m3, List.length_cons, List.length_nil, yearCs]
  have hcons : ∃ q r, (dtxt d mo y mk).cps.toList = q :: r ∧ 48 ≤ q ∧ q ≤ 57 := by
    rw [hlist]
    cases e : dayCs d.toNat with
    | nil => rw [e] at dl; simp at dl
    | cons q r => exact ⟨q, _, rfl, dd q (by rw [e]; exact List.mem_cons_self ..)⟩
  obtain ⟨q, r, hq, hq1, hq2⟩ := hcons
  have hasc : ∀ z ∈ (dtxt d mo y mk).cps.toList, z < 128 := by
    rw [hlist]
    intro z hz
    simp only [List.mem_append, List.append_nil, List.mem_singleton] at hz
    rcases hz with h | h | h | h | h
    · have := dd z h; omega
    · omega
    · exact m2 z h
    · omega
    · have := yd z h; omega
  refine ⟨g, by omega, by omega, fun a => ?_, lstrip_id hq hasc (by rw [spS_eq]; simp; omega), fac1 hq ⟨hq1, hq2⟩, h1, fun _ => by omega, h2, ?_⟩
  · have := ch_lt a
    omega
  · exact h3

theorem dtxt_ints {d y : Int} (hd1 : 1 ≤ d) (hd2 : d ≤ 31) (hy1 : 1970 ≤ y) (hy2 : y ≤ 9999) :
    PySem.intText? ⟨(dayCs d.toNat).toArray⟩ = some d ∧ PySem.intText? ⟨(yearCs y.toNat).toArray⟩ = some y := by
  have dl := dayCs_len d.toNat
  refine ⟨?_, ?_⟩
  · rw [int_of (dayCs_dig (by omega)) (by intro e; rw [e] at dl; simp at dl) (by omega), dayCs_val (by omega)]
    congr 1; omega
  · rw [int_of (yearCs_dig (by omega)) (by unfold yearCs; simp) (by unfold yearCs; simp), yearCs_val (by omega)]
    congr 1; omega
theorem cap_mon {mo : Int} (h1 : 1 ≤ mo) (h2 : mo ≤ 12) : monIdx (Txt.lower (capMonths.getD (mo - 1).toNat PySem.Str.empty)) = some (mo - 1).toNat := by
  obtain ⟨m1, m2, m3, m4⟩ := cap_low ⟨(mo - 1).toNat, by omega⟩
  rw [lower_ascii m2]
  exact m1
end Mine
end

section
open PySem PySem.W PyProof.Rows
set_option Elab.async false
set_option linter.unusedVariables false
set_option maxRecDepth 20000
namespace Mine
open PySem.Builtin PySem.Builtin.Time PySem.Builtin._datetime

def dayNo (y mo d : Int) : Int := _datetime.toOrdinal y mo 1 - 719163 + d - 1
def wdOf (y mo d : Int) : Int := (dayNo y mo d + 4) % 7
def zel (y mo d : Int) : Int :=
  let sh := if mo ≤ 2 then y - 1 else y
  let mv := if mo ≤ 2 then mo + 12 else mo
  let lo := sh % 100
  let hi := sh / 100
  ((d + 13 * (mv + 1) / 5 + lo + lo / 4 + hi / 4 + 5 * hi) % 7 + 6) % 7
def con (y : Int) : Int := (5 * (y / 100 % 4) + 2 + y % 100 + y % 100 / 4) % 7
def yearOf (x : Int) : Int := if x % 3 = 0 then 1970 + x / 3 % 8030 else if x % 3 = 1 then 2000 + 100 * (x / 3 % 80) else 1972 + 4 * (x / 3 % 2007)

theorem year_in (x : Int) : 1970 ≤ yearOf x ∧ yearOf x ≤ 9999 := by
  unfold yearOf
  split
  · omega
  · split <;> omega

def lp (y : Int) : Int := if timeIsLeap y then 1 else 0
theorem lp_cases (y : Int) : (lp y = 1 ∧ y % 4 = 0 ∧ (y % 100 ≠ 0 ∨ y % 400 = 0)) ∨ (lp y = 0 ∧ (y % 4 ≠ 0 ∨ (y % 100 = 0 ∧ y % 400 ≠ 0))) := by
  unfold lp timeIsLeap
  by_cases h4 : y % 4 = 0
  · by_cases h1 : y % 100 = 0
    · by_cases h2 : y % 400 = 0
      · left; simp [h4, h1, h2]
      · right; simp [h4, h1, h2]
    · left; simp [h4, h1]
  · right; simp [h4]
def cum (mo : Int) : Int := ([0, 31, 59, 90, 120, 151, 181, 212, 243, 273, 304, 334] : List Int).getD (mo - 1).toNat 0
theorem dayNo_eq (y mo d : Int) : dayNo y mo d = (y - 1) * 365 + (y - 1) / 4 - (y - 1) / 100 + (y - 1) / 400 + cum mo + (if 2 < mo then lp y else 0) + d - 719163 := by
  unfold dayNo toOrdinal timeDaysBefore cum lp
  rw [List.getD_eq_getElem?_getD]
  by_cases h : 2 < mo
  · cases e : timeIsLeap y <;> simp [h] <;> omega
  · cases e : timeIsLeap y <;> simp [h] <;> omega
theorem mo_cases {mo : Int} (h1 : 1 ≤ mo) (h2 : mo ≤ 12) : mo = 1 ∨ mo = 2 ∨ mo = 3 ∨ mo = 4 ∨ mo = 5 ∨ mo = 6 ∨ mo = 7 ∨ mo = 8 ∨ mo = 9 ∨ mo = 10 ∨ mo = 11 ∨ mo = 12 := by omega
/-- the year's part of the day's number, by the marks of the year -/
theorem year_part (y : Int) : ((y - 1) / 4 - (y - 1) / 100 + (y - 1) / 400 + lp y = y / 4 - y / 100 + y / 400) := by
  rcases lp_cases y with ⟨h, h1, h2⟩ | ⟨h, h1⟩ <;> rw [h] <;> omega
theorem quarter (y : Int) : y / 4 = 25 * (y / 100) + y % 100 / 4 := by omega
theorem quarter2 (y : Int) : y / 100 / 4 = y / 400 := by omega
theorem cent (y : Int) : y = 100 * (y / 100) + y % 100 := by omega
theorem wd_zel {y mo : Int} (h1 : 1 ≤ mo) (h2 : mo ≤ 12) : wdOf y mo 13 = zel y mo 13 := by
  have hy := year_part y
  unfold wdOf
  rw [dayNo_eq]
  have a1 := quarter y
  have a2 := quarter2 y
  have a3 := cent y
  have b1 := quarter (y - 1)
  have b2 := quarter2 (y - 1)
  have b3 := cent (y - 1)
  rcases mo_cases h1 h2 with rfl | rfl | rfl | rfl | rfl | rfl | rfl | rfl | rfl | rfl | rfl | rfl <;> simp [zel, cum] <;> rw [show ∀ a b : Int, (a = b) = (a - b = 0) from fun a b => by rw [Int.sub_eq_zero]] <;>
    (try simp only [a2, b2]) <;> (generalize y / 4 = u4 at *; generalize y / 100 = u1 at *; generalize y % 100 = ur at *; generalize ur / 4 = uq at *; generalize (y - 1) / 4 = v4 at *; generalize (y - 1) / 100 = v1 at *; generalize (y - 1) % 100 = vr at *; generalize vr / 4 = vq at *; generalize (y - 1) / 400 = vc at *; generalize y / 400 = uc at *; omega)
theorem wd_con {y mo d : Int} (h : (mo, d) ∈ ([(3, 7), (4, 4), (5, 9), (6, 6), (7, 11), (8, 8), (9, 5), (10, 10), (11, 7), (12, 12)] : List (Int × Int))) : wdOf y mo d = con y := by
  have hy := year_part y
  unfold wdOf
  rw [dayNo_eq]
  have a1 := quarter y
  have a3 := cent y
  have a4 : y / 100 % 4 = y / 100 - 4 * (y / 400) := by omega
  simp only [List.mem_cons, Prod.mk.injEq, List.not_mem_nil, or_false] at h
  rcases h with ⟨rfl, rfl⟩ | ⟨rfl, rfl⟩ | ⟨rfl, rfl⟩ | ⟨rfl, rfl⟩ | ⟨rfl, rfl⟩ | ⟨rfl, rfl⟩ | ⟨rfl, rfl⟩ | ⟨rfl, rfl⟩ | ⟨rfl, rfl⟩ | ⟨rfl, rfl⟩ <;> simp [con, cum] <;> omega
/-- how many of the months' 13ths are Fridays -/
def fri (y : Int) : List Int → Int
  | [] => 0
  | m :: r => (if wdOf y m 13 = 5 then 1 else 0) + fri y r
theorem fri_snoc (y : Int) : ∀ (l : List Int) (m : Int), fri y (l ++ [m]) = fri y l + (if wdOf y m 13 = 5 then 1 else 0)
  | [], m => by simp [fri]
  | a :: l, m => by rw [List.cons_append, fri, fri, fri_snoc y l m]; omega
theorem fri_in (y : Int) : 1 ≤ fri y [1, 2, 3, 4, 5, 6, 7, 8, 9, 10, 11, 12] ∧ fri y [1, 2, 3, 4, 5, 6, 7, 8, 9, 10, 11, 12] ≤ 3 := by
  obtain ⟨b, hb⟩ : ∃ b, b = ((y - 1) * 365 + (y - 1) / 4 - (y - 1) / 100 + (y - 1) / 400 + 13 - 719163 + 4) % 7 := ⟨_, rfl⟩
  have key : ∀ mo, wdOf y mo 13 = (b + cum mo + (if 2 < mo then lp y else 0)) % 7 := fun mo => by
    unfold wdOf
    rw [dayNo_eq, hb]
    omega
  have hb0 : 0 ≤ b := by omega
  have hb6 : b < 7 := by omega
  have hl : lp y = 0 ∨ lp y = 1 := by unfold lp; split <;> simp
  simp only [fri, key]
  clear key hb
  rcases (by omega : b = 0 ∨ b = 1 ∨ b = 2 ∨ b = 3 ∨ b = 4 ∨ b = 5 ∨ b = 6) with rfl | rfl | rfl | rfl | rfl | rfl | rfl <;> rcases hl with h | h <;> rw [h] <;> decide
theorem secs_day (y mo d : Int) : secs y mo d 0 0 0 = 86400 * dayNo y mo d := by
  unfold secs dayNo
  omega
theorem tg_day {y mo d : Int} (hd1 : 1 ≤ d) (hd2 : d ≤ 31) (hy1 : 1970 ≤ y) (hmo1 : 1 ≤ mo) (hmo2 : mo ≤ 12) : TG y mo d 0 0 0 = some (86400 * dayNo y mo d) := by
  unfold TG
  rw [if_pos (by omega), secs_day]
end Mine
end

section
local macro_rules | `(tactic| walk_at "none such") => `(tactic| fail)
local macro_rules | `(tactic| walk_at "none such") => `(tactic| fail)
local macro_rules | `(tactic| walk_at "none such") => `(tactic| fail)
local macro_rules | `(tactic| walk_at "none such") => `(tactic| fail)
local macro_rules | `(tactic| walk_at "none such") => `(tactic| fail)
local macro_rules | `(tactic| walk_at "none such") => `(tactic| fail)
local macro_rules | `(tactic| walk_at "none such") => `(tactic| fail)
local macro_rules | `(tactic| walk_at "none such") => `(tactic| fail)
local macro_rules | `(tactic| walk_at "none such") => `(tactic| fail)
local macro_rules | `(tactic| walk_at "none such") => `(tactic| fail)
local macro_rules | `(tactic| walk_at "none such") => `(tactic| fail)
local macro_rules | `(tactic| walk_at "none such") => `(tactic| fail)
local macro_rules | `(tactic| walk_at "none such") => `(tactic| fail)
local macro_rules | `(tactic| walk_at "none such") => `(tactic| fail)
local macro_rules | `(tactic| walk_at "none such") => `(tactic| fail)
local macro_rules | `(tactic| walk_at "none such") => `(tactic| fail)
local macro_rules | `(tactic| walk_at "none such") => `(tactic| fail)
local macro_rules | `(tactic| walk_at "none such") => `(tactic| fail)
local macro_rules | `(tactic| walk_at "none such") => `(tactic| fail)
local macro_rules | `(tactic| walk_at "none such") => `(tactic| fail)
local macro_rules | `(tactic| walk_at "none such") => `(tactic| fail)
local macro_rules | `(tactic| walk_at "none such") => `(tactic| fail)
local macro_rules | `(tactic| walk_at "none such") => `(tactic| fail)
local macro_rules | `(tactic| walk_at "none such") => `(tactic| fail)
local macro_rules | `(tactic| walk_at "none such") => `(tactic| fail)
local macro_rules | `(tactic| walk_at "none such") => `(tactic| fail)
local macro_rules | `(tactic| walk_at "none such") => `(tactic| fail)
local macro_rules | `(tactic| walk_at "none such") => `(tactic| fail)
local macro_rules | `(tactic| walk_at "none such") => `(tactic| fail)
local macro_rules | `(tactic| walk_at "none such") => `(tactic| fail)
local macro_rules | `(tactic| walk_at "none such") => `(tactic| fail)
local macro_rules | `(tactic| walk_at "none such") => `(tactic| fail)
local macro_rules | `(tactic| walk_at "none such") => `(tactic| fail)
local macro_rules | `(tactic| walk_at "none such") => `(tactic| fail)
local macro_rules | `(tactic| walk_at "none such") => `(tactic| fail)
local macro_rules | `(tactic| walk_at "none such") => `(tactic| fail)
local macro_rules | `(tactic| walk_at "none such") => `(tactic| fail)
local macro_rules | `(tactic| walk_at "none such") => `(tactic| fail)
local macro_rules | `(tactic| walk_at "none such") => `(tactic| fail)
local macro_rules | `(tactic| walk_at "none such") => `(tactic| fail)
local macro_rules | `(tactic| walk_at "none such") => `(tactic| fail)
local macro_rules | `(tactic| walk_at "none such") => `(tactic| fail)
local macro_rules | `(tactic| walk_at "none such") => `(tactic| fail)
set_option rowWalk.seconds 0
theorem Mine.wOff31 : True := by
  w_top off
  trivial
open PySem PySem.W PyProof.Rows
set_option Elab.async false
set_option linter.unusedVariables false
set_option maxRecDepth 100000
set_option maxHeartbeats 4000000
namespace Mine
open PySem.Builtin PySem.Builtin.Re PySem.Sre

local macro_rules | `(tactic| walk_at "execs cons") => `(tactic| (k_here; (with_reducible refine gen_cons ?_); intro tk; try dsimp only))
local macro_rules | `(tactic| walk_at "execs nil") => `(tactic| (k_here; (with_reducible refine gen_nil ?_); intro tk; try dsimp only))
local macro_rules | `(tactic| walk_at "ite") => `(tactic| (k_here; (with_reducible refine split_dec ?_ ?_) <;> (intro _; try (exfalso; omega))))

section
variable {w : World} {mean : ExcName → Option Value} {mg mb : Str → Option Value} {loose : List Str} {dp un : Nat} {gd : Option (List Code)} {cn : Str} {cs : Scope} {a : Addr} {ccd : Value} {cl : List (Str × Addr)} {outer : List Env} {h₀ : Heap} {L : Addr} {m : Str → Option Value} {s : Shared} {Q E : Value → Shared → Prop} {news : List (Addr × Obj)}

theorem year_c {x : Int} {t : Tok} (F : Fr h₀ L s.heap m) (X : (hd.heap_39 w.params).In h₀) (N : News h₀ L s.heap news) (T : Top hd.view_39 loose mean mg mb h₀)
    (hk : cs.kind = .function) (hdp : dp + 20 < recursionLimit) (hun : un + 100 < cLine)
    (hret : Back h₀ L m news s Q (IsOI (some (yearOf x)))) : wpAny (model PySem.Challenge.rw_ec5008_02.row.prog w) (ktrTop dp un gd cn cs L a ccd cl outer) (call (.ref 157) [.int x t]) Q E s := by
  revert X; k_fill; intro X
  refine wpAny_call ?_
  k_dflt (refine' code_c ?F ?X ?N ?T ?o ?c ?r ?b ?l ?_ ?c2 ?c3 ?c4 ?c5; (case F => k_asm); (case X => k_asm); (case N => k_asm); (case T => k_asm); (case o => k_is); (case c => k_is); (case r => ktr_room); (case b => exact BindsTo.of_eq rfl); (case l => exact locs rfl); (case c2 => exact rfl); (case c3 => exact rfl); (case c4 => exact rfl); (case c5 => decide))
  intro L' oL h₁ tk C ne F' N'
  (try dsimp only); (try k_fold)
  k_steps
  all_goals (refine' back_some hret ?e ?C ?ne ?F ?N ?hs; (case C => k_asm); (case ne => k_asm); (case F => k_asm); (case N => k_asm); (case hs => kcj_all); (case e => (unfold yearOf; simp [Int.fmod_eq_emod_of_nonneg, Int.fdiv_eq_ediv_of_nonneg] at *; first | rfl | simp_all)))
theorem zel_c {y mo d : Int} {t1 t2 t3 : Tok} (F : Fr h₀ L s.heap m) (X : (hd.heap_39 w.params).In h₀) (N : News h₀ L s.heap news) (T : Top hd.view_39 loose mean mg mb h₀)
    (hk : cs.kind = .function) (hdp : dp + 20 < recursionLimit) (hun : un + 100 < cLine)
    (hret : Back h₀ L m news s Q (IsOI (some (zel y mo d)))) : wpAny (model PySem.Challenge.rw_ec5008_02.row.prog w) (ktrTop dp un gd cn cs L a ccd cl outer) (call (.ref 164) [.int y t1, .int mo t2, .int d t3]) Q E s := by
  revert X; k_fill; intro X
  refine wpAny_call ?_
  k_dflt (refine' code_c ?F ?X ?N ?T ?o ?c ?r ?b ?l ?_ ?c2 ?c3 ?c4 ?c5; (case F => k_asm); (case X => k_asm); (case N => k_asm); (case T => k_asm); (case o => k_is); (case c => k_is); (case r => ktr_room); (case b => exact BindsTo.of_eq rfl); (case l => exact locs rfl); (case c2 => exact rfl); (case c3 => exact rfl); (case c4 => exact rfl); (case c5 => decide))
  intro L' oL h₁ tk C ne F' N'
  (try dsimp only); (try k_fold)
  k_steps
  all_goals (refine' back_some hret ?e ?C ?ne ?F ?N ?hs; (case C => k_asm); (case ne => k_asm); (case F => k_asm); (case N => k_asm); (case hs => kcj_all); (case e => first | (unfold zel; rw [if_pos (by assumption), if_pos (by assumption)]; simp [Int.fmod_eq_emod_of_nonneg, Int.fdiv_eq_ediv_of_nonneg]; done) | (unfold zel; rw [if_neg (by assumption), if_neg (by assumption)]; simp [Int.fmod_eq_emod_of_nonneg, Int.fdiv_eq_ediv_of_nonneg]; done)))
theorem con_c {y : Int} {t1 : Tok} (F : Fr h₀ L s.heap m) (X : (hd.heap_39 w.params).In h₀) (N : News h₀ L s.heap news) (T : Top hd.view_39 loose mean mg mb h₀)
    (hk : cs.kind = .function) (hdp : dp + 20 < recursionLimit) (hun : un + 100 < cLine)
    (hret : Back h₀ L m news s Q (IsOI (some (con y)))) : wpAny (model PySem.Challenge.rw_ec5008_02.row.prog w) (ktrTop dp un gd cn cs L a ccd cl outer) (call (.ref 171) [.int y t1]) Q E s := by
  revert X; k_fill; intro X
  refine wpAny_call ?_
  k_dflt (refine' code_c ?F ?X ?N ?T ?o ?c ?r ?b ?l ?_ ?c2 ?c3 ?c4 ?c5; (case F => k_asm); (case X => k_asm); (case N => k_asm); (case T => k_asm); (case o => k_is); (case c => k_is); (case r => ktr_room); (case b => exact BindsTo.of_eq rfl); (case l => exact locs rfl); (case c2 => exact rfl); (case c3 => exact rfl); (case c4 => exact rfl); (case c5 => decide))
  intro L' oL h₁ tk C ne F' N'
  (try dsimp only); (try k_fold)
  k_steps
  all_goals (refine' back_some hret ?e ?C ?ne ?F ?N ?hs; (case C => k_asm); (case ne => k_asm); (case F => k_asm); (case N => k_asm); (case hs => kcj_all); (case e => (unfold con; simp [Int.fmod_eq_emod_of_nonneg, Int.fdiv_eq_ediv_of_nonneg] at *; try rfl)))
theorem dtxt_eq (d mo y : Int) (mk : PySem.Str) : PySem.Str.ofString (toString d) ++ mk ++ [PySem.Str.ofString "Jan", PySem.Str.ofString "Feb", PySem.Str.ofString "Mar", PySem.Str.ofString "Apr", PySem.Str.ofString "May", PySem.Str.ofString "Jun", PySem.Str.ofString "Jul", PySem.Str.ofString "Aug", PySem.Str.ofString "Sep", PySem.Str.ofString "Oct", PySem.Str.ofString "Nov", PySem.Str.ofString "Dec"].getD (mo - 1).toNat PySem.Str.empty ++ mk ++ PySem.Str.ofString (toString y) = dtxt d mo y mk := rfl
local macro_rules | `(tactic| kt_len) => `(tactic| exact cap_len _)
theorem wd_c {d mo y : Int} {mk : PySem.Str} {t1 t2 t3 t4 : Tok} (F : Fr h₀ L s.heap m) (X : (hd.heap_39 w.params).In h₀) (N : News h₀ L s.heap news) (T : Top hd.view_39 loose mean mg mb h₀)
    (hk : cs.kind = .function) (hdp : dp + 120 < recursionLimit) (hun : un + 900 < cLine) (hd1 : 1 ≤ d) (hd2 : d ≤ 31) (hy1 : 1970 ≤ y) (hy2 : y ≤ 9999) (hmo1 : 1 ≤ mo) (hmo2 : mo ≤ 12) (hmk : mk = " " ∨ mk = "-" ∨ mk = "/") (hmk1 : mk.length ≤ 1)
    (hret : Back h₀ L m news s Q (IsOI (some (wdOf y mo d)))) : wpAny (model PySem.Challenge.rw_ec5008_02.row.prog w) (ktrTop dp un gd cn cs L a ccd cl outer) (call (.ref 178) [.int d t1, .int mo t2, .int y t3, .str mk t4]) Q E s := by
  obtain ⟨g, hgl⟩ := dtxt_loose hd1 hd2 hy1 hy2 hmo1 hmo2 hmk
  obtain ⟨i1, i2⟩ := dtxt_ints hd1 hd2 hy1 hy2
  have hX := X
  revert X; k_fill; intro X
  refine wpAny_call ?_
  k_dflt (refine' code_c ?F ?X ?N ?T ?o ?c ?r ?b ?l ?_ ?c2 ?c3 ?c4 ?c5; (case F => k_asm); (case X => k_asm); (case N => k_asm); (case T => k_asm); (case o => k_is); (case c => k_is); (case r => ktr_room); (case b => exact BindsTo.of_eq rfl); (case l => exact locs rfl); (case c2 => exact rfl); (case c3 => exact rfl); (case c4 => exact rfl); (case c5 => decide))
  intro L' oL h₁ tk C ne F' N'
  (try dsimp only); (try k_fold)
  k_steps
  rw [dtxt_eq]
  k_dflt (refine' http1_c (r := some (86400 * dayNo y mo d)) ?hF hX ?hN ?hT ?hkk ?hdd ?huu hgl.hx hgl.hx0 hgl.hG hgl.hl hgl.hx hgl.hx0 hgl.hw hgl.hg hgl.h5 hgl.hok hgl.hgr ?hH ?_; (case hF => k_asm); (case hN => k_asm); (case hT => k_asm); (case hkk => exact rfl); (case hdd => ktr_room); (case huu => ktr_units))
  case hH =>
    intro dp un gd cn cs L a ccd cl outer m s Q E news t1 t2 t3 t4 t5 t6 t7 F N hk hdp hun hret
    refine str2time0_c F hX N T hk (by omega) (by omega) i2 ?_ i1 ?_ (cap_mon hmo1 hmo2) ?_ (by omega) hy2 ?_ hret
    · show (yearCs y.toNat).toArray.size ≤ 640
      simp [yearCs]
    · show (dayCs d.toNat).toArray.size ≤ 640
      have := dayCs_len d.toNat
      rw [List.size_toArray]; omega
    · exact Nat.le_trans (cap_len _) (by decide)
    · rw [show (((mo - 1).toNat : Int) + 1) = mo by omega]
      exact tg_day hd1 hd2 hy1 hmo1 hmo2
  intro v9 h9 tk9 hv9 F9 N9
  obtain ⟨t9, e9⟩ := hv9
  subst e9
  (try dsimp only)
  have hz : (86400 * dayNo y mo d).fmod 86400 = 0 := by rw [Int.fmod_eq_emod_of_nonneg _ (by decide)]; omega
  k_steps
  all_goals first
    | (exfalso; simp_all; done)
    | (refine' back_some hret ?e ?C ?ne ?F ?N ?hs; (case C => k_asm); (case ne => k_asm); (case F => k_asm); (case N => k_asm); (case hs => kcj_all); (case e => (unfold wdOf; rw [Int.fdiv_eq_ediv_of_nonneg _ (by decide), Int.fmod_eq_emod_of_nonneg _ (by decide)]; congr 2; omega)))
end
end Mine
end

section
local macro_rules | `(tactic| walk_at "none such") => `(tactic| fail)
local macro_rules | `(tactic| walk_at "none such") => `(tactic| fail)
local macro_rules | `(tactic| walk_at "none such") => `(tactic| fail)
local macro_rules | `(tactic| walk_at "none such") => `(tactic| fail)
local macro_rules | `(tactic| walk_at "none such") => `(tactic| fail)
local macro_rules | `(tactic| walk_at "none such") => `(tactic| fail)
local macro_rules | `(tactic| walk_at "none such") => `(tactic| fail)
local macro_rules | `(tactic| walk_at "none such") => `(tactic| fail)
local macro_rules | `(tactic| walk_at "none such") => `(tactic| fail)
local macro_rules | `(tactic| walk_at "none such") => `(tactic| fail)
local macro_rules | `(tactic| walk_at "none such") => `(tactic| fail)
local macro_rules | `(tactic| walk_at "none such") => `(tactic| fail)
local macro_rules | `(tactic| walk_at "none such") => `(tactic| fail)
local macro_rules | `(tactic| walk_at "none such") => `(tactic| fail)
local macro_rules | `(tactic| walk_at "none such") => `(tactic| fail)
local macro_rules | `(tactic| walk_at "none such") => `(tactic| fail)
local macro_rules | `(tactic| walk_at "none such") => `(tactic| fail)
local macro_rules | `(tactic| walk_at "none such") => `(tactic| fail)
local macro_rules | `(tactic| walk_at "none such") => `(tactic| fail)
local macro_rules | `(tactic| walk_at "none such") => `(tactic| fail)
local macro_rules | `(tactic| walk_at "none such") => `(tactic| fail)
local macro_rules | `(tactic| walk_at "none such") => `(tactic| fail)
local macro_rules | `(tactic| walk_at "none such") => `(tactic| fail)
local macro_rules | `(tactic| walk_at "none such") => `(tactic| fail)
local macro_rules | `(tactic| walk_at "none such") => `(tactic| fail)
local macro_rules | `(tactic| walk_at "none such") => `(tactic| fail)
local macro_rules | `(tactic| walk_at "none such") => `(tactic| fail)
local macro_rules | `(tactic| walk_at "none such") => `(tactic| fail)
local macro_rules | `(tactic| walk_at "none such") => `(tactic| fail)
local macro_rules | `(tactic| walk_at "none such") => `(tactic| fail)
local macro_rules | `(tactic| walk_at "none such") => `(tactic| fail)
local macro_rules | `(tactic| walk_at "none such") => `(tactic| fail)
local macro_rules | `(tactic| walk_at "none such") => `(tactic| fail)
local macro_rules | `(tactic| walk_at "none such") => `(tactic| fail)
local macro_rules | `(tactic| walk_at "none such") => `(tactic| fail)
local macro_rules | `(tactic| walk_at "none such") => `(tactic| fail)
local macro_rules | `(tactic| walk_at "none such") => `(tactic| fail)
local macro_rules | `(tactic| walk_at "none such") => `(tactic| fail)
local macro_rules | `(tactic| walk_at "none such") => `(tactic| fail)
local macro_rules | `(tactic| walk_at "none such") => `(tactic| fail)
local macro_rules | `(tactic| walk_at "none such") => `(tactic| fail)
local macro_rules | `(tactic| walk_at "none such") => `(tactic| fail)
local macro_rules | `(tactic| walk_at "none such") => `(tactic| fail)
local macro_rules | `(tactic| walk_at "none such") => `(tactic| fail)
local macro_rules | `(tactic| walk_at "none such") => `(tactic| fail)
local macro_rules | `(tactic| walk_at "none such") => `(tactic| fail)
local macro_rules | `(tactic| walk_at "none such") => `(tactic| fail)
set_option rowWalk.seconds 0
theorem Mine.wOff32 : True := by
  w_top off
  trivial
open PySem PySem.W PyProof.Rows
set_option Elab.async false
set_option linter.unusedVariables false
set_option maxRecDepth 100000
set_option maxHeartbeats 8000000
namespace Mine

theorem yr_val {x : Int} {v : Value} (h : IsOI (some (yearOf x)) v) : ∃ y t, v = .int y t ∧ 1970 ≤ y ∧ y ≤ 9999 := by
  obtain ⟨t, e⟩ := h
  exact ⟨_, t, e, (year_in x).1, (year_in x).2⟩
structure IsWd (y mo d a : Int) : Prop where
  is : a = wdOf y mo d
structure IsZel (y mo d a : Int) : Prop where
  is : a = zel y mo d
structure IsCon (y a : Int) : Prop where
  is : a = con y
structure IsFri (y : Int) (l : List Int) (f : Int) : Prop where
  is : f = fri y l
theorem wd_val {y mo d : Int} {v : Value} (h : IsOI (some (wdOf y mo d)) v) : ∃ a t, v = .int a t ∧ IsWd y mo d a := by
  obtain ⟨t, e⟩ := h
  exact ⟨_, t, e, ⟨rfl⟩⟩
theorem zel_val {y mo d : Int} {v : Value} (h : IsOI (some (zel y mo d)) v) : ∃ a t, v = .int a t ∧ IsZel y mo d a := by
  obtain ⟨t, e⟩ := h
  exact ⟨_, t, e, ⟨rfl⟩⟩
theorem con_val {y : Int} {v : Value} (h : IsOI (some (con y)) v) : ∃ a t, v = .int a t ∧ IsCon y a := by
  obtain ⟨t, e⟩ := h
  exact ⟨_, t, e, ⟨rfl⟩⟩
local macro_rules | `(tactic| walk_at "execs cons") => `(tactic| (k_here; (with_reducible refine gen_cons ?_); intro tk; try dsimp only))
local macro_rules | `(tactic| walk_at "execs nil") => `(tactic| (k_here; (with_reducible refine gen_nil ?_); intro tk; try dsimp only))
theorem tup_of {s : Shared} {h₀ : Heap} {L l : Addr} {news : List (Addr × Obj)} {vs : List Value} (N : News h₀ L s.heap news) (hm : (l, ({ cls := .type "tuple", data := .seq vs.toArray } : Obj)) ∈ news) : IsTup s.heap l vs.toArray := ⟨_, (N _ hm).1, rfl, _, rfl⟩
def marks : List PySem.Str := [" ", "-", "/"]
theorem marks_is {i : Nat} (h : i < 3) : marks.getD i PySem.Str.empty = " " ∨ marks.getD i PySem.Str.empty = "-" ∨ marks.getD i PySem.Str.empty = "/" := by
  rcases (by omega : i = 0 ∨ i = 1 ∨ i = 2) with rfl | rfl | rfl
  · exact .inl rfl
  · exact .inr (.inl rfl)
  · exact .inr (.inr rfl)
theorem marks_len {i : Nat} : (marks.getD i PySem.Str.empty).length ≤ 1 := by
  by_cases h : i < 3
  · rcases (by omega : i = 0 ∨ i = 1 ∨ i = 2) with rfl | rfl | rfl <;> decide +kernel
  · unfold marks; rw [List.getD_eq_getElem?_getD, List.getElem?_eq_none (by show 3 ≤ i; omega)]; exact Nat.zero_le _
theorem fm_lo {x : Int} : 0 ≤ x.fmod 3 := by rw [Int.fmod_eq_emod_of_nonneg _ (by decide)]; omega
theorem fm_hi {x : Int} : x.fmod 3 < 3 := by rw [Int.fmod_eq_emod_of_nonneg _ (by decide)]; omega
structure IsMark (mk : PySem.Str) : Prop where
  is : mk = " " ∨ mk = "-" ∨ mk = "/"
  len : mk.length ≤ 1
section
variable {prog : Program} {w : World} {A : Around} {E : Value → Shared → Prop} {s : Shared} {Q : Value → Shared → Prop} {l : Addr} {vs : List Value} {x : Int} {u : Tok} {a b : PySem.Expr}
theorem mark_tup (ht : IsTup s.heap l vs.toArray) (hw : StrsAre vs marks) (h : ∀ (mk : String) (t' : Tok), IsMark (PySem.Str.ofString mk) → Q (.str (PySem.Str.ofString mk) t') s)
    (hs : subscripted b false (.ref l) (.int (x.fmod 3) u) = operate [.ref l, .int (x.fmod 3) u] (getItem (.ref l) (.int (x.fmod 3) u)) := by with_unfolding_all rfl) :
    wpAny (model prog w) A (subscriptTail a b (.ref l) (.int (x.fmod 3) u)) Q E s :=
  KTb.item_tup ht hw fm_lo fm_hi (Int.lt_trans fm_hi (by decide)) (fun t' k => by
    have := marks_is k
    have hl := marks_len (i := (x.fmod 3).toNat)
    rcases this with e | e | e <;> rw [e] at hl ⊢ <;> refine h _ t' ⟨?_, hl⟩
    · exact .inl rfl
    · exact .inr (.inl rfl)
    · exact .inr (.inr rfl)) hs
end
local macro_rules | `(tactic| walk_at "subscriptTail") => `(tactic| (k_here; (with_reducible show wpAny _ _ (subscriptTail _ _ (Value.ref _) (Value.int _ _)) _ _ _); k_dflt (refine' mark_tup ?ktbl ?ktbw ?_; (case ktbl => exact tup_of (by k_asm) (List.Mem.head _)); (case ktbw => repeat constructor)); intro mk9 t9 hmk9))
local macro_rules | `(tactic| walk_at "pyIter ref") => `(tactic| (k_of "x" => k_state (fun pre told due => told = due ∧ told.length = 22 * pre.length) "told" "due"))
local macro_rules | `(tactic| walk_at "pyIter ref") => `(tactic| (k_of "month" => k_state_given ["year", "told!"] (fun year told0 pre told due f => told = due ∧ told.length = told0.length + pre.length ∧ IsFri year pre f) "told" "due" "fridays"))
local macro_rules | `(tactic| walk_at "call ref") => `(tactic| (k_here; (with_reducible show wpAny _ _ (call (Value.ref 157) _ _) _ _ _); k_dflt (refine' year_c ?F ?X ?N ?T ?k ?d ?u ?_; (case F => k_asm); (case X => k_asm); (case N => k_asm); (case T => k_asm); (case k => first | exact rfl | assumption); (case d => ktr_room); (case u => ktr_units)); intro v9 h9 tk9 hv9 F9 N9; (try dsimp only); obtain ⟨y9, t9, e9, b91, b92⟩ := yr_val hv9; subst e9))
local macro_rules | `(tactic| walk_at "call ref") => `(tactic| (k_here; (with_reducible show wpAny _ _ (call (Value.ref 178) _ _) _ _ _); k_dflt (refine' wd_c ?F ?X ?N ?T ?k ?d ?u ?a ?b ?c ?e ?f ?g ?h ?i ?_; (case F => k_asm); (case X => k_asm); (case N => k_asm); (case T => k_asm); (case k => first | exact rfl | assumption); (case d => ktr_room); (case u => ktr_units); (case a => omega); (case b => omega); (case c => omega); (case e => omega); (case f => omega); (case g => omega); (case h => exact IsMark.is (by assumption)); (case i => exact IsMark.len (by assumption))); intro v9 h9 tk9 hv9 F9 N9; (try dsimp only); obtain ⟨a9, t9, e9, g9⟩ := wd_val hv9; subst e9))
local macro_rules | `(tactic| walk_at "call ref") => `(tactic| (k_here; (with_reducible show wpAny _ _ (call (Value.ref 164) _ _) _ _ _); k_dflt (refine' zel_c ?F ?X ?N ?T ?k ?d ?u ?_; (case F => k_asm); (case X => k_asm); (case N => k_asm); (case T => k_asm); (case k => first | exact rfl | assumption); (case d => ktr_room); (case u => ktr_units)); intro v9 h9 tk9 hv9 F9 N9; (try dsimp only); obtain ⟨a9, t9, e9, g9⟩ := zel_val hv9; subst e9))
local macro_rules | `(tactic| walk_at "call ref") => `(tactic| (k_here; (with_reducible show wpAny _ _ (call (Value.ref 171) _ _) _ _ _); k_dflt (refine' con_c ?F ?X ?N ?T ?k ?d ?u ?_; (case F => k_asm); (case X => k_asm); (case N => k_asm); (case T => k_asm); (case k => first | exact rfl | assumption); (case d => ktr_room); (case u => ktr_units)); intro v9 h9 tk9 hv9 F9 N9; (try dsimp only); obtain ⟨a9, t9, e9, g9⟩ := con_val hv9; subst e9))
theorem unr_tail {h₀ h' : Heap} {L i : Addr} {o : Obj} {tk : Nat} {s₁ : Shared} {m' : Str → Option Value} {rest : List (Addr × Obj)} {R : (Str → Option Value) → List (Addr × Obj) → Prop} (F : Fr h₀ L h' m') (N : News h₀ L h' ((i, o) :: rest)) (lt : AllLt i rest)
    (r : R m' rest) : UnrEndW h₀ L s₁ [(i, o)] (fun m' n' => SubL [] n' ∧ R m' n') { s₁ with heap := h', toks := tk } :=
  ⟨h', tk, m', rest, rfl, F, N, fun p hp q hq e => by rw [List.mem_singleton.mp hq] at e; exact absurd (kst_ltOf lt p hp) (by rw [e]; exact Nat.lt_irrefl _), trivial, r⟩
local macro_rules | `(tactic| walk_at "UnrEndW") => `(tactic| (refine unr_tail (by assumption) (by assumption) (by first | assumption | ((simp only [AllLt, and_true]); assumption)) ?_))
local macro_rules | `(tactic| size_fits) => `(tactic| (simp only [Array.size_push]; size_fits))
theorem fri_at {y f : Int} (h : IsFri y (rangeKs 1 ((13 : Int) - 1).toNat) f) : 1 ≤ f ∧ f ≤ 3 := by
  rw [h.is]
  exact fri_in y
theorem st0 : ([] : List Int) = [] ∧ ([] : List Int).length = 22 * ([] : List Int).length := ⟨rfl, rfl⟩
theorem st1 (l : List Int) (y : Int) : l = l ∧ l.length = l.length + ([] : List Int).length ∧ IsFri y [] 0 := ⟨rfl, rfl, ⟨rfl⟩⟩
theorem sameWd {y m a b : Int} (ha : IsWd y m 13 a) (hb : IsZel y m 13 b) (h1 : 1 ≤ m) (h2 : m ≤ 12) : a = b := by
  rw [ha.is, hb.is]; exact wd_zel h1 h2
theorem turnA {l pre : List Int} {a b y m f : Int} {n : Nat} (ha : IsWd y m 13 a) (hb : IsZel y m 13 b) (hl : l.length = n + pre.length) (hf : IsFri y pre f) (h5 : a = 5) (h1 : 1 ≤ m) (h2 : m ≤ 12) :
    l ++ [a] = l ++ [b] ∧ (l ++ [a]).length = n + (pre ++ [m]).length ∧ IsFri y (pre ++ [m]) (f + 1) := by
  refine ⟨by rw [sameWd ha hb h1 h2], by simp only [List.length_append, List.length_cons, List.length_nil]; omega, ⟨?_⟩⟩
  rw [fri_snoc, ← ha.is, if_pos h5, hf.is]
theorem turnB {l pre : List Int} {a b y m f : Int} {n : Nat} (ha : IsWd y m 13 a) (hb : IsZel y m 13 b) (hl : l.length = n + pre.length) (hf : IsFri y pre f) (h5 : a ≠ 5) (h1 : 1 ≤ m) (h2 : m ≤ 12) :
    l ++ [a] = l ++ [b] ∧ (l ++ [a]).length = n + (pre ++ [m]).length ∧ IsFri y (pre ++ [m]) f := by
  refine ⟨by rw [sameWd ha hb h1 h2], by simp only [List.length_append, List.length_cons, List.length_nil]; omega, ⟨?_⟩⟩
  rw [fri_snoc, ← ha.is, if_neg h5, hf.is]; omega
theorem conWd {y m d a b : Int} (ha : IsWd y m d a) (hb : IsCon y b) (h : (m, d) ∈ ([(3, 7), (4, 4), (5, 9), (6, 6), (7, 11), (8, 8), (9, 5), (10, 10), (11, 7), (12, 12)] : List (Int × Int))) : a = b := by
  rw [ha.is, hb.is]; exact wd_con h
theorem turnC {l l₀ pre : List Int} {y x a0 b0 a1 b1 a2 b2 a3 b3 a4 b4 a5 b5 a6 b6 a7 b7 a8 b8 a9 b9 : Int} (h0 : l₀.length = 22 * pre.length) (hl : l.length = l₀.length + (rangeKs 1 ((13 : Int) - 1).toNat).length) (w0 : IsWd y 3 7 a0) (c0 : IsCon y b0) (w1 : IsWd y 4 4 a1) (c1 : IsCon y b1) (w2 : IsWd y 5 9 a2) (c2 : IsCon y b2) (w3 : IsWd y 6 6 a3) (c3 : IsCon y b3) (w4 : IsWd y 7 11 a4) (c4 : IsCon y b4) (w5 : IsWd y 8 8 a5) (c5 : IsCon y b5) (w6 : IsWd y 9 5 a6) (c6 : IsCon y b6) (w7 : IsWd y 10 10 a7) (c7 : IsCon y b7) (w8 : IsWd y 11 7 a8) (c8 : IsCon y b8) (w9 : IsWd y 12 12 a9) (c9 : IsCon y b9) :
    l ++ [a0] ++ [a1] ++ [a2] ++ [a3] ++ [a4] ++ [a5] ++ [a6] ++ [a7] ++ [a8] ++ [a9] = l ++ [b0] ++ [b1] ++ [b2] ++ [b3] ++ [b4] ++ [b5] ++ [b6] ++ [b7] ++ [b8] ++ [b9] ∧ (l ++ [a0] ++ [a1] ++ [a2] ++ [a3] ++ [a4] ++ [a5] ++ [a6] ++ [a7] ++ [a8] ++ [a9]).length = 22 * (pre ++ [x]).length := by
  rw [conWd w0 c0 (by decide), conWd w1 c1 (by decide), conWd w2 c2 (by decide), conWd w3 c3 (by decide), conWd w4 c4 (by decide), conWd w5 c5 (by decide), conWd w6 c6 (by decide), conWd w7 c7 (by decide), conWd w8 c8 (by decide), conWd w9 c9 (by decide)]
  refine ⟨rfl, ?_⟩
  have hr : (rangeKs 1 ((13 : Int) - 1).toNat).length = 12 := rfl
  simp only [List.length_append, List.length_cons, List.length_nil]
  omega
theorem law2 : PySem.Challenge.rw_ec5008_02.Holds := by
  k_with "state" => first
    | with_reducible exact st0
    | with_reducible exact st1 _ _
    | (with_reducible refine turnA ?_ ?_ ?_ ?_ ?_ (by omega) (by omega) <;> with_reducible assumption)
    | (with_reducible refine turnB ?_ ?_ ?_ ?_ ?_ (by omega) (by omega) <;> with_reducible assumption)
    | (with_reducible exact turnC (by with_reducible assumption) (by with_reducible assumption) (by with_reducible assumption) (by with_reducible assumption) (by with_reducible assumption) (by with_reducible assumption) (by with_reducible assumption) (by with_reducible assumption) (by with_reducible assumption) (by with_reducible assumption) (by with_reducible assumption) (by with_reducible assumption) (by with_reducible assumption) (by with_reducible assumption) (by with_reducible assumption) (by with_reducible assumption) (by with_reducible assumption) (by with_reducible assumption) (by with_reducible assumption) (by with_reducible assumption) (by with_reducible assumption) (by with_reducible assumption))
  refine hd ?_
  k_go0
  all_goals try k_fold
  k_steps
  all_goals (exfalso; have := fri_at (by with_reducible assumption); omega)
end Mine
end

set_option maxRecDepth 100000 in
theorem PySem.Challenge.cw_ec5008_02_holds : PySem.Challenge.rw_ec5008_02.Holds := by
  exact Mine.law2
