import PyProof.Rows.All
import Wide.All
import OpenK.AllK
import Wide.FinOn
import PySem.Challenge.RW_ez0208_01
section
open PySem PySem.W PyProof.Rows
set_option Elab.async false
set_option maxRecDepth 100000
set_option maxHeartbeats 0
namespace Mine
open_top hd for PySem.Challenge.rw_ez0208_01
end Mine
end
section
set_option maxRecDepth 100000
set_option Elab.async false
set_option linter.unusedVariables false
namespace Mine.Rx
open PySem hiding Frame Kept
open PySem.Sre
def Ends (k : Nat) (m : M) (P : M → Prop) : Prop := ∃ n, n ≤ k ∧ (m.runFor n).outcome.isSome = true ∧ P (m.runFor n)
theorem runFor_stop {m : M} (h : m.outcome.isSome = true) : ∀ n, m.runFor n = m
  | 0 => rfl
  | n + 1 => by unfold M.runFor; rw [if_pos h]
theorem ends_step {k : Nat} {m : M} {P : M → Prop} (ho : m.outcome = none) (h : Ends k m.step P) : Ends (k + 1) m P := by
  obtain ⟨n, hn, a, b⟩ := h
  have e : m.runFor (n + 1) = m.step.runFor n := by
    show (if m.outcome.isSome then m else M.runFor n m.step) = _
    rw [ho]; rfl
  exact ⟨n + 1, by omega, by rw [e]; exact a, by rw [e]; exact b⟩
theorem ends_now {k : Nat} {m : M} {P : M → Prop} (ho : m.outcome.isSome = true) (h : P m) : Ends k m P := ⟨0, Nat.zero_le _, ho, h⟩
theorem ends_le {k k' : Nat} {m : M} {P : M → Prop} (hk : k ≤ k') (h : Ends k m P) : Ends k' m P := by
  obtain ⟨n, hn, r⟩ := h; exact ⟨n, Nat.le_trans hn hk, r⟩
theorem runFor_add (a b : Nat) (m : M) : m.runFor (a + b) = (m.runFor a).runFor b := by
  induction a generalizing m with
  | zero => rw [Nat.zero_add]; rfl
  | succ a ih =>
    rw [Nat.succ_add]
    show (if m.outcome.isSome then m else M.runFor (a + b) m.step) = (if m.outcome.isSome then m else M.runFor a m.step).runFor b
    split
    · rename_i h; rw [runFor_stop h]
    · exact ih _
/-- what of the marks counts -/
def vis (m : M) (j : Nat) : Option Nat := if (j : Int) ≤ m.lastmark then m.marks.getD j none else none
def quietW : Wait → Bool
  | .giveBack | .closeLoop | .maxMore | .maxTail | .nextBranch => true
  | _ => false
def Quiet (l : List Frame) : Prop := ∀ f ∈ l, quietW f.wait = true
theorem Quiet.cons {f : Frame} {l : List Frame} (hf : quietW f.wait = true) (h : Quiet l) : Quiet (f :: l) := fun g hg => by
  rcases List.mem_cons.mp hg with rfl | hg
  · exact hf
  · exact h _ hg
/-- a match that stands: the frames are only popped -/
theorem unwind : ∀ (l : List Frame) (m : M), m.frames = l → Quiet l → m.answer = some true → m.outcome = none →
    Ends (l.length + 1) m (fun m' => m'.outcome = some .matched ∧ m'.start = m.start ∧ m'.handed = m.handed ∧ m'.marks = m.marks ∧ m'.lastmark = m.lastmark ∧ m'.lastindex = m.lastindex)
  | [], m, hf, _, ha, ho => by
    refine ends_step ho (ends_now ?_ ?_)
    · unfold M.step; rw [ho, ha, hf]; rfl
    · unfold M.step; rw [ho, ha, hf]; exact ⟨rfl, rfl, rfl, rfl, rfl, rfl⟩
  | f :: r, m, hf, hq, ha, ho => by
    have e : m.step = M.resume { m with answer := none, frames := r, weight := m.weight - (1 + f.kept.marks.size), pc := f.pc, pos := f.pos, outermost := f.outermost } f true := by
      unfold M.step; rw [ho, ha, hf]; rfl
    have hf' := hq f (.head _)
    have hr : Quiet r := fun g hg => hq g (.tail _ hg)
    refine ends_step ho ?_
    rw [e]
    have key : ∀ m' : M, m' = M.resume { m with answer := none, frames := r, weight := m.weight - (1 + f.kept.marks.size), pc := f.pc, pos := f.pos, outermost := f.outermost } f true →
        m'.frames = r ∧ m'.answer = some true ∧ m'.outcome = none ∧ m'.start = m.start ∧ m'.handed = m.handed ∧ m'.marks = m.marks ∧ m'.lastmark = m.lastmark ∧ m'.lastindex = m.lastindex := by
      intro m' e'
      clear hf hq hr e
      obtain ⟨wt, fpc, fpos, fo, fc, fk, fl, fb⟩ := f
      cases wt <;> first | (exact Bool.noConfusion (show false = true from hf')) | (subst e'; exact ⟨rfl, rfl, ho, rfl, rfl, rfl, rfl, rfl⟩)
    obtain ⟨k1, k2, k3, k4, k5, k6, k7, k8⟩ := key _ rfl
    obtain ⟨n, hn, a, b1, b2, b3, b4, b5, b6⟩ := unwind r _ k1 hr k2 k3
    exact ⟨n, by simpa using hn, a, b1, b2.trans k4, b3.trans k5, b4.trans k6, b5.trans k7, b6.trans k8⟩
theorem fold_clear (lm : Int) : ∀ (l : List Nat) (a : Array (Option Nat)),
    (l.foldl (fun (a : Array (Option Nat)) (j : Nat) => if (j : Int) > lm then a.setIfInBounds j none else a) a).size = a.size ∧
    ∀ j, (l.foldl (fun (a : Array (Option Nat)) (j : Nat) => if (j : Int) > lm then a.setIfInBounds j none else a) a).getD j none = if (j : Int) > lm ∧ j ∈ l then none else a.getD j none
  | [], a => ⟨rfl, fun j => by simp⟩
  | x :: l, a => by
    rw [List.foldl_cons]
    obtain ⟨h1, h2⟩ := fold_clear lm l (if (x : Int) > lm then a.setIfInBounds x none else a)
    refine ⟨h1.trans (by split <;> simp), fun j => (h2 j).trans ?_⟩
    by_cases hj : (j : Int) > lm ∧ j ∈ l
    · rw [if_pos hj, if_pos ⟨hj.1, .tail _ hj.2⟩]
    · rw [if_neg hj]
      by_cases hx : (x : Int) > lm
      · rw [if_pos hx]
        by_cases e : j = x
        · subst e
          rw [if_pos ⟨hx, .head _⟩]
          simp [Array.getD_eq_getD_getElem?, Array.getElem?_setIfInBounds]
          split <;> rfl
        · rw [if_neg (fun q => hj ⟨q.1, (List.mem_cons.mp q.2).resolve_left e⟩)]
          simp [Array.getD_eq_getD_getElem?, Array.getElem?_setIfInBounds, Ne.symm e]
      · rw [if_neg hx]
        by_cases q : (j : Int) > lm ∧ j ∈ x :: l
        · rcases List.mem_cons.mp q.2 with e | e
          · subst e; exact absurd q.1 hx
          · exact absurd ⟨q.1, e⟩ hj
        · rw [if_neg q]
theorem mark_size (m : M) (i : Nat) : (m.mark i).marks.size = m.marks.size := by
  unfold M.mark
  dsimp only
  rw [Array.size_setIfInBounds]
  split
  · rfl
  · exact (fold_clear _ _ _).1
theorem mark_vis (m : M) (i : Nat) (hi : i < m.marks.size) (j : Nat) : vis (m.mark i) j = if j = i then some m.pos else vis m j := by
  have hl : (m.mark i).lastmark = max m.lastmark i := rfl
  have hm : (m.mark i).marks = ((if (i : Int) ≤ m.lastmark + 1 then m.marks
    else (List.range i).foldl (fun (a : Array (Option Nat)) (j : Nat) => if (j : Int) > m.lastmark then a.setIfInBounds j none else a) m.marks)).setIfInBounds i (some m.pos) := rfl
  unfold vis
  rw [hl, hm]
  by_cases e : j = i
  · subst e
    rw [if_pos (Int.le_max_right _ _), if_pos rfl]
    have hs : j < ((if (j : Int) ≤ m.lastmark + 1 then m.marks
      else (List.range j).foldl (fun (a : Array (Option Nat)) (j : Nat) => if (j : Int) > m.lastmark then a.setIfInBounds j none else a) m.marks)).size := by
      split
      · exact hi
      · rw [(fold_clear _ _ _).1]; exact hi
    simp [Array.getD_eq_getD_getElem?, Array.getElem?_setIfInBounds, hs]
  · rw [if_neg e]
    have hg : ∀ a : Array (Option Nat), (a.setIfInBounds i (some m.pos)).getD j none = a.getD j none := fun a => by
      simp [Array.getD_eq_getD_getElem?, Array.getElem?_setIfInBounds, Ne.symm e]
    rw [hg]
    by_cases hj : (j : Int) ≤ m.lastmark
    · rw [if_pos (Int.le_trans hj (Int.le_max_left _ _)), if_pos hj]
      split
      · rfl
      · rw [(fold_clear _ _ _).2, if_neg (fun q => by omega)]
    · rw [if_neg hj]
      by_cases q : (j : Int) ≤ max m.lastmark i
      · rw [if_pos q]
        have hji : (j : Int) ≤ i := by omega
        have : ¬ (i : Int) ≤ m.lastmark + 1 := by omega
        rw [if_neg this, (fold_clear _ _ _).2, if_pos ⟨by omega, List.mem_range.mpr (by omega)⟩]
      · rw [if_neg q]
noncomputable def fsum : List Frame → Nat
  | [] => 0
  | f :: r => 1 + f.kept.marks.size + fsum r
theorem fsum_le {n : Nat} : ∀ {l : List Frame}, (∀ f ∈ l, f.kept.marks.size ≤ n) → fsum l ≤ l.length * (n + 1)
  | [], _ => Nat.zero_le _
  | f :: r, h => by
    have h1 := h f (.head _)
    have h2 := fsum_le (l := r) fun g hg => h g (.tail _ hg)
    show 1 + f.kept.marks.size + fsum r ≤ (r.length + 1) * (n + 1)
    rw [Nat.add_mul]; omega
structure S (C T : Array Nat) (n : Nat) (a : Option Bool) (pc pos : Nat) (ls : List (Nat × Loop)) (v : Nat → Option Nat) (fs : List Frame) (m : M) : Prop where
  code : m.code = C
  text : m.text = T
  lim : m.lim = T.size
  start : m.start = 0
  whole : m.wholeText = false
  must : m.mustAdvance = false
  pc : m.pc = pc
  pos : m.pos = pos
  outer : m.outermost = true
  msz : m.marks.size = n
  vis : ∀ j, vis m j = v j
  lmlo : -1 ≤ m.lastmark
  lmhi : m.lastmark < n
  ans : m.answer = a
  out : m.outcome = none
  frames : m.frames = fs
  wt : m.weight = fsum fs
  kz : ∀ f ∈ fs, f.kept.marks.size ≤ n
  inner : m.inner = ls.head?.map (·.1)
  loops : ∀ p ∈ ls, m.loops[p.1]? = some p.2
  dist : (ls.map (·.1)).Pairwise (· > ·)
def upd (v : Nat → Option Nat) (i p : Nat) : Nat → Option Nat := fun j => if j = i then some p else v j
section
variable {C T : Array Nat} {pc pos n : Nat} {ls : List (Nat × Loop)} {v : Nat → Option Nat} {fs : List Frame} {m : M}
theorem step_eq (s : S C T n none pc pos ls v fs m) (h : pc < C.size) : m.step = m.exec := by
  unfold M.step
  rw [s.out, s.ans]
  show (if m.pc < m.code.size then m.exec else _) = _
  rw [s.pc, s.code, if_pos h]
theorem word_eq {a : Option Bool} (s : S C T n a pc pos ls v fs m) (k : Nat) : m.word k = C.getD (pc + k) 0 := by
  unfold M.word; rw [s.pc, s.code]
theorem i_mark {i : Nat} (s : S C T n none pc pos ls v fs m) (h0 : C.getD pc 0 = 17) (h1 : C.getD (pc + 1) 0 = i) (hi : i < n) (h : pc < C.size) :
    S C T n none (pc + 2) pos ls (upd v i pos) fs m.step := by
  have e : m.step = M.mark { m with seen := m.seen.add (m.word 0) } i := by
    rw [step_eq s h]
    unfold M.exec
    have : ops[m.word 0]? = some .MARK := by rw [word_eq s 0, Nat.add_zero, h0]; rfl
    rw [this]
    show M.mark _ (m.word 1) = _
    rw [word_eq s 1, h1]
  rw [e]
  have hm := mark_vis { m with seen := m.seen.add (m.word 0) } i (by show i < m.marks.size; rw [s.msz]; exact hi)
  have hs := mark_size { m with seen := m.seen.add (m.word 0) } i
  exact { s with
    pc := by show m.pc + 2 = _; rw [s.pc]
    msz := hs.trans s.msz
    vis := fun j => by
      rw [hm j]
      unfold upd
      show (if j = i then some m.pos else Rx.vis m j) = _
      rw [s.pos, s.vis j]
    lmlo := by show -1 ≤ max m.lastmark (i : Int); have := s.lmlo; omega
    lmhi := by show max m.lastmark (i : Int) < n; have := s.lmhi; omega }
theorem keep_size {a : Option Bool} (s : S C T n a pc pos ls v fs m) (b : Bool) : (m.keep b).marks.size ≤ n := by
  unfold M.keep
  cases b with
  | false => exact Nat.zero_le _
  | true =>
    show (m.marks.extract 0 (m.lastmark + 1).toNat).size ≤ n
    rw [Array.size_extract, s.msz]; omega
theorem attempt_eq (f : Frame) (target frm : Nat) (o : Bool) (hw : m.weight + 1 + f.kept.marks.size ≤ 16777216) :
    m.attempt f target frm o = { m with frames := f :: m.frames, weight := m.weight + 1 + f.kept.marks.size, pc := target, pos := frm, handed := frm, outermost := o } := by
  unfold M.attempt
  rw [if_neg (by omega)]
theorem room_ok {a : Option Bool} (s : S C T n a pc pos ls v fs m) (hn : n ≤ 22) (hl : fs.length ≤ 100000) {k : Nat} (hk : k ≤ n) : m.weight + 1 + k ≤ 16777216 := by
  have h1 := fsum_le s.kz
  rw [s.wt]
  have : fs.length * (n + 1) ≤ 100000 * 23 := Nat.mul_le_mul hl (by omega)
  omega
/-- a tried way: the frame goes on top -/
theorem S.attempt {target frm : Nat} {f : Frame} (s : S C T n none pc pos ls v fs m) (hn : n ≤ 22) (hl : fs.length ≤ 100000) (hk : f.kept.marks.size ≤ n) :
    S C T n none target frm ls v (f :: fs) (m.attempt f target frm m.outermost) := by
  rw [attempt_eq f target frm _ (room_ok s hn hl hk)]
  exact { s with
    pc := rfl
    pos := rfl
    frames := by show f :: m.frames = _; rw [s.frames]
    wt := by show m.weight + 1 + f.kept.marks.size = 1 + f.kept.marks.size + fsum fs; rw [s.wt]; omega
    kz := fun g hg => by
      rcases List.mem_cons.mp hg with rfl | hg
      · exact hk
      · exact s.kz _ hg }
theorem S.seen {a : Option Bool} {x : Seen} (s : S C T n a pc pos ls v fs m) : S C T n a pc pos ls v fs { m with seen := x } := { s with }
theorem S.at_ {a : Option Bool} {p q : Nat} (s : S C T n a pc pos ls v fs m) : S C T n a p q ls v fs { m with pc := p, pos := q } := { s with pc := rfl, pos := rfl }
theorem S.say {b : Bool} {a : Option Bool} (s : S C T n a pc pos ls v fs m) : S C T n (some b) pc pos ls v fs (m.say b) := { s with ans := rfl }
def gbFrame (pc pos : Nat) (c : Nat) (k : Kept) : Frame := { wait := .giveBack, pc := pc, pos := pos, outermost := true, count := c, kept := k }
theorem i_rep1 {skip least most k : Nat} (s : S C T n none pc pos ls v fs m) (hn : n ≤ 22) (hl : fs.length ≤ 100000)
    (h0 : C.getD pc 0 = 24) (h1 : C.getD (pc + 1) 0 = skip) (h2 : C.getD (pc + 2) 0 = least) (h3 : C.getD (pc + 3) 0 = most) (h : pc < C.size)
    (hp : pos ≤ T.size) (hr : ∀ x, ∃ y, Sre.run C T (pc + 4) (min most (T.size - pos)) pos 0 x = .ok (k, y)) (hk : least ≤ k) (hk2 : k ≤ T.size - pos) :
    S C T n none (pc + 1 + skip) (pos + k) ls v (gbFrame pc (pos + k) k (m.keep m.inner.isSome) :: fs) m.step := by
  obtain ⟨y, hy⟩ := hr ((m.seen.add (m.word 0)).add (m.word 4))
  have hroom : ((m.lim : Int) - m.pos).toNat = T.size - pos := by rw [s.lim, s.pos]; omega
  have e : m.step = M.attempt { m with seen := y, pos := m.pos + k } (gbFrame m.pc (m.pos + k) k (m.keep m.inner.isSome)) (m.pc + 1 + m.word 1) (m.pos + k) m.outermost := by
    rw [step_eq s h]
    unfold M.exec
    have : ops[m.word 0]? = some .REPEAT_ONE := by rw [word_eq s 0, Nat.add_zero, h0]; rfl
    rw [this]
    dsimp only
    have w2 : M.word { m with seen := m.seen.add (m.word 0) } 2 = least := by show m.word 2 = _; rw [word_eq s 2, h2]
    have w3 : M.word { m with seen := m.seen.add (m.word 0) } 3 = most := by show m.word 3 = _; rw [word_eq s 3, h3]
    rw [w2, w3, if_neg (by rw [s.lim, s.pos]; omega)]
    have hy' : Sre.run m.code m.text (m.pc + 4) (min (if false = true then least else most) ((m.lim : Int) - m.pos).toNat) m.pos 0 ((m.seen.add (m.word 0)).add (m.word 4)) = .ok (k, y) := by
      rw [hroom, s.code, s.text, s.pc, s.pos]; exact hy
    show (match Sre.run m.code m.text (m.pc + 4) (min (if false = true then least else most) ((m.lim : Int) - m.pos).toNat) m.pos 0 ((m.seen.add (m.word 0)).add (m.word 4)) with
      | .error why => _
      | .ok (n, seen) => _) = _
    rw [hy']
    dsimp only
    rw [if_neg (by omega)]
    show M.attempt _ _ _ _ _ = M.attempt _ _ _ _ _
    unfold gbFrame
    rw [s.outer]
    rfl
  have s' : S C T n none pc (pos + k) ls v fs { m with seen := y, pos := m.pos + k } := { s with pos := by show m.pos + k = _; rw [s.pos] }
  have r := S.attempt (target := m.pc + 1 + m.word 1) (frm := m.pos + k) (f := gbFrame m.pc (m.pos + k) k (m.keep m.inner.isSome)) s' hn hl (keep_size s _)
  rw [e]
  have ep := s.pc
  have eq := s.pos
  have ew := (word_eq s 1).trans h1
  rw [ew] at r ⊢
  subst ep eq
  exact r
theorem i_rep1_no {least most k : Nat} (s : S C T n none pc pos ls v fs m)
    (h0 : C.getD pc 0 = 24) (h2 : C.getD (pc + 2) 0 = least) (h3 : C.getD (pc + 3) 0 = most) (h : pc < C.size)
    (hp : pos ≤ T.size) (hr : ∀ x, ∃ y, Sre.run C T (pc + 4) (min most (T.size - pos)) pos 0 x = .ok (k, y)) (hk : k < least) :
    S C T n (some false) pc pos ls v fs m.step := by
  obtain ⟨y, hy⟩ := hr ((m.seen.add (m.word 0)).add (m.word 4))
  have hroom : ((m.lim : Int) - m.pos).toNat = T.size - pos := by rw [s.lim, s.pos]; omega
  have : ops[m.word 0]? = some .REPEAT_ONE := by rw [word_eq s 0, Nat.add_zero, h0]; rfl
  have w2 : M.word { m with seen := m.seen.add (m.word 0) } 2 = least := by show m.word 2 = _; rw [word_eq s 2, h2]
  have w3 : M.word { m with seen := m.seen.add (m.word 0) } 3 = most := by show m.word 3 = _; rw [word_eq s 3, h3]
  rw [step_eq s h]
  unfold M.exec
  rw [this]
  dsimp only
  rw [w2, w3]
  split
  · exact S.say (S.seen s)
  · have hy' : Sre.run m.code m.text (m.pc + 4) (min (if false = true then least else most) ((m.lim : Int) - m.pos).toNat) m.pos 0 ((m.seen.add (m.word 0)).add (m.word 4)) = .ok (k, y) := by
      rw [hroom, s.code, s.text, s.pc, s.pos]; exact hy
    show S C T n (some false) pc pos ls v fs (match Sre.run m.code m.text (m.pc + 4) (min (if false = true then least else most) ((m.lim : Int) - m.pos).toNat) m.pos 0 ((m.seen.add (m.word 0)).add (m.word 4)) with
      | .error why => _
      | .ok (n, seen) => _)
    rw [hy']
    dsimp only
    rw [if_pos hk]
    exact S.say (S.seen s)
/-- one sign is asked -/
def charOp : Op → Bool
  | .LITERAL | .NOT_LITERAL | .IN => true
  | _ => false
theorem exec_out {op : Op} (hop : ops[m.word 0]? = some op) (hc : charOp op = true) (hp : m.pos ≥ m.lim) : m.exec = M.say { m with seen := m.seen.add (m.word 0) } false := by
  unfold M.exec
  rw [hop]
  cases op <;> first | exact absurd hc (by decide) | (dsimp only; rw [if_pos hp])
theorem exec_yes {op : Op} {y : Seen} (hop : ops[m.word 0]? = some op) (hc : charOp op = true) (hp : ¬ m.pos ≥ m.lim) (ha : accepts m.code m.pc (m.text.getD m.pos 0) (m.seen.add (m.word 0)) = .ok (true, y)) :
    m.exec = { m with seen := y, pc := m.pc + itemWidth m.code m.pc, pos := m.pos + 1 } := by
  unfold M.exec
  rw [hop]
  cases op <;> first | exact absurd hc (by decide) | (dsimp only; rw [if_neg hp, ha])
theorem exec_no {op : Op} {y : Seen} (hop : ops[m.word 0]? = some op) (hc : charOp op = true) (hp : ¬ m.pos ≥ m.lim) (ha : accepts m.code m.pc (m.text.getD m.pos 0) (m.seen.add (m.word 0)) = .ok (false, y)) :
    m.exec = M.say { m with seen := y } false := by
  unfold M.exec
  rw [hop]
  cases op <;> first | exact absurd hc (by decide) | (dsimp only; rw [if_neg hp, ha])
theorem i_char {op : Op} {wd : Nat} (s : S C T n none pc pos ls v fs m) (hop : ops[C.getD pc 0]? = some op) (hc : charOp op = true) (h : pc < C.size)
    (hp : pos < T.size) (ha : ∀ x, ∃ y, accepts C pc (T.getD pos 0) x = .ok (true, y)) (hw : itemWidth C pc = wd) :
    S C T n none (pc + wd) (pos + 1) ls v fs m.step := by
  obtain ⟨y, hy⟩ := ha (m.seen.add (m.word 0))
  have hy' : accepts m.code m.pc (m.text.getD m.pos 0) (m.seen.add (m.word 0)) = .ok (true, y) := by rw [s.code, s.pc, s.text, s.pos]; exact hy
  rw [step_eq s h, exec_yes (by rw [word_eq s 0, Nat.add_zero]; exact hop) hc (by rw [s.pos, s.lim]; omega) hy']
  exact { s with
    pc := by show m.pc + itemWidth m.code m.pc = _; rw [s.pc, s.code, hw]
    pos := by show m.pos + 1 = _; rw [s.pos] }
theorem i_char_no {op : Op} (s : S C T n none pc pos ls v fs m) (hop : ops[C.getD pc 0]? = some op) (hc : charOp op = true) (h : pc < C.size)
    (ha : pos < T.size → ∀ x, ∃ y, accepts C pc (T.getD pos 0) x = .ok (false, y)) : S C T n (some false) pc pos ls v fs m.step := by
  have hop' : ops[m.word 0]? = some op := by rw [word_eq s 0, Nat.add_zero]; exact hop
  rw [step_eq s h]
  by_cases hp : pos < T.size
  · obtain ⟨y, hy⟩ := ha hp (m.seen.add (m.word 0))
    have hy' : accepts m.code m.pc (m.text.getD m.pos 0) (m.seen.add (m.word 0)) = .ok (false, y) := by rw [s.code, s.pc, s.text, s.pos]; exact hy
    rw [exec_no hop' hc (by rw [s.pos, s.lim]; omega) hy']
    exact S.say (S.seen s)
  · rw [exec_out hop' hc (by rw [s.pos, s.lim]; omega)]
    exact S.say (S.seen s)
theorem i_at0 (s : S C T n none pc 0 ls v fs m) (h0 : C.getD pc 0 = 6) (h1 : C.getD (pc + 1) 0 = 0) (h : pc < C.size) : S C T n none (pc + 2) 0 ls v fs m.step := by
  have : ops[m.word 0]? = some .AT := by rw [word_eq s 0, Nat.add_zero, h0]; rfl
  rw [step_eq s h]
  unfold M.exec
  rw [this]
  have w1 : M.word { m with seen := m.seen.add (m.word 0) } 1 = 0 := by show m.word 1 = _; rw [word_eq s 1, h1]
  dsimp only
  rw [w1]
  have e : M.isAt { m with seen := m.seen.add (m.word 0) } 0 = .ok true := by
    show Except.ok (m.pos == 0) = _
    rw [s.pos]; rfl
  rw [e]
  exact { s with pc := by show m.pc + 2 = _; rw [s.pc] }
theorem i_at5 (s : S C T n none pc T.size ls v fs m) (h0 : C.getD pc 0 = 6) (h1 : C.getD (pc + 1) 0 = 5) (h : pc < C.size) : S C T n none (pc + 2) T.size ls v fs m.step := by
  have : ops[m.word 0]? = some .AT := by rw [word_eq s 0, Nat.add_zero, h0]; rfl
  rw [step_eq s h]
  unfold M.exec
  rw [this]
  have w1 : M.word { m with seen := m.seen.add (m.word 0) } 1 = 5 := by show m.word 1 = _; rw [word_eq s 1, h1]
  dsimp only
  rw [w1]
  have e : M.isAt { m with seen := m.seen.add (m.word 0) } 5 = .ok true := by
    show Except.ok (m.pos == m.lim || _) = _
    rw [s.pos, s.lim, beq_self_eq_true, Bool.true_or]
  rw [e]
  exact { s with pc := by show m.pc + 2 = _; rw [s.pc] }
theorem i_jump {k : Nat} (s : S C T n none pc pos ls v fs m) (h0 : C.getD pc 0 = 15) (h1 : C.getD (pc + 1) 0 = k) (h : pc < C.size) : S C T n none (pc + 1 + k) pos ls v fs m.step := by
  have : ops[m.word 0]? = some .JUMP := by rw [word_eq s 0, Nat.add_zero, h0]; rfl
  rw [step_eq s h]
  unfold M.exec
  rw [this]
  have w1 : M.word { m with seen := m.seen.add (m.word 0) } 1 = k := by show m.word 1 = _; rw [word_eq s 1, h1]
  dsimp only
  rw [w1]
  exact { s with pc := by show m.pc + 1 + k = _; rw [s.pc] }
theorem i_success (s : S C T n none pc pos ls v fs m) (h0 : C.getD pc 0 = 1) (h : pc < C.size) : S C T n (some true) pc pos ls v fs m.step ∧ m.step.handed = pos := by
  have : ops[m.word 0]? = some .SUCCESS := by rw [word_eq s 0, Nat.add_zero, h0]; rfl
  rw [step_eq s h]
  unfold M.exec
  rw [this]
  dsimp only
  have hc : ¬ (m.outermost && (m.wholeText && m.pos != m.lim || m.mustAdvance && m.pos == m.start)) = true := by
    rw [s.whole, s.must]; simp
  rw [if_neg hc]
  exact ⟨{ s with ans := rfl }, s.pos⟩
def mkFrame (wt : Wait) (pc pos : Nat) (c : Int) (k : Kept) (l : Nat) (b : Option Nat) : Frame := { wait := wt, pc := pc, pos := pos, outermost := true, count := c, kept := k, loop := l, began := b }
theorem i_repeat {skip : Nat} (s : S C T n none pc pos ls v fs m) (hn : n ≤ 22) (hl : fs.length ≤ 100000)
    (h0 : C.getD pc 0 = 23) (h1 : C.getD (pc + 1) 0 = skip) (h : pc < C.size) :
    ∃ i, S C T n none (pc + 1 + skip) pos ((i, { pc := pc, outer := ls.head?.map (·.1) }) :: ls) v (mkFrame .closeLoop pc pos 0 {} i none :: fs) m.step := by
  refine ⟨m.loops.size, ?_⟩
  have : ops[m.word 0]? = some .REPEAT := by rw [word_eq s 0, Nat.add_zero, h0]; rfl
  have ew := (word_eq s 1).trans h1
  have e : m.step = M.attempt { m with seen := m.seen.add (m.word 0), loops := m.loops.push { pc := m.pc, outer := m.inner }, inner := some m.loops.size } (mkFrame .closeLoop m.pc m.pos 0 {} m.loops.size none) (m.pc + 1 + m.word 1) m.pos m.outermost := by
    rw [step_eq s h]
    unfold M.exec
    rw [this]
    dsimp only
    unfold mkFrame M.frame
    rw [s.outer]
    rfl
  have s' : S C T n none pc pos ((m.loops.size, { pc := pc, outer := ls.head?.map (·.1) }) :: ls) v fs { m with seen := m.seen.add (m.word 0), loops := m.loops.push { pc := m.pc, outer := m.inner }, inner := some m.loops.size } := { s with
    inner := rfl
    loops := fun p hp => by
      rcases List.mem_cons.mp hp with rfl | hp
      · show (m.loops.push _)[m.loops.size]? = _
        rw [Array.getElem?_push_size, s.pc, s.inner]
      · have := s.loops p hp
        show (m.loops.push _)[p.1]? = _
        have hlt : p.1 < m.loops.size := by
          by_cases q : p.1 < m.loops.size
          · exact q
          · rw [Array.getElem?_eq_none (by omega)] at this; cases this
        rw [Array.getElem?_push_lt hlt, ← this, Array.getElem?_eq_getElem hlt]
    dist := by
      show List.Pairwise _ (m.loops.size :: ls.map (·.1))
      refine List.Pairwise.cons (fun b hb => ?_) s.dist
      obtain ⟨p, hp, rfl⟩ := List.mem_map.mp hb
      have := s.loops p hp
      by_cases q : p.1 < m.loops.size
      · exact q
      · rw [Array.getElem?_eq_none (by omega)] at this; cases this }
  have r := S.attempt (target := m.pc + 1 + m.word 1) (frm := m.pos) (f := mkFrame .closeLoop m.pc m.pos 0 {} m.loops.size none) s' hn hl (Nat.zero_le _)
  rw [e]
  have ep := s.pc
  have eq := s.pos
  rw [ew] at r ⊢
  subst ep eq
  exact r
theorem S.setLoop {a : Option Bool} {i : Nat} {l : Loop} {f : Loop → Loop} (s : S C T n a pc pos ((i, l) :: ls) v fs m) : S C T n a pc pos ((i, f l) :: ls) v fs (m.setLoop i f) := { s with
  inner := s.inner
  loops := fun p hp => by
    show (m.loops.modify i f)[p.1]? = _
    rcases List.mem_cons.mp hp with rfl | hp
    · have := s.loops (i, l) (.head _)
      rw [Array.getElem?_modify, if_pos rfl, this]; rfl
    · have h1 := s.loops p (.tail _ hp)
      have h2 := (List.pairwise_cons.mp s.dist).1 p.1 (List.mem_map_of_mem hp)
      have h3 : p.1 < i := h2
      rw [Array.getElem?_modify, if_neg (by omega), h1]
  dist := s.dist }
theorem S.loopAt {a : Option Bool} {i : Nat} {l : Loop} (s : S C T n a pc pos ((i, l) :: ls) v fs m) : m.loopAt i = l := by
  unfold M.loopAt
  have := s.loops (i, l) (.head _)
  rw [Array.getD_eq_getD_getElem?, this]; rfl
theorem until_round {x : M} {i : Nat} {l : Loop} {least most : Nat} (hin : x.inner = some i) (hla : x.loopAt i = l) (e2 : x.code.getD (l.pc + 2) 0 = least) (e3 : x.code.getD (l.pc + 3) 0 = most)
    (hc : (least : Int) ≤ l.count + 1) (hm : l.count + 1 < most ∨ most = 4294967295) (hb : l.began ≠ some x.pos) : x.until_ true = x.round .maxMore i (l.count + 1) true (x.keep true) := by
  unfold M.until_
  rw [hin]
  dsimp only
  rw [hla, e2, e3, if_neg (by omega), if_neg (by decide), if_pos (by
      rw [Bool.and_eq_true]
      constructor
      · rcases hm with hm | hm
        · simp [hm]
        · simp [hm, maxRepeat]
      · exact bne_iff_ne.mpr hb)]
theorem until_tail {x : M} {i : Nat} {l : Loop} {least most : Nat} (hin : x.inner = some i) (hla : x.loopAt i = l) (e2 : x.code.getD (l.pc + 2) 0 = least) (e3 : x.code.getD (l.pc + 3) 0 = most)
    (hc : (least : Int) ≤ l.count + 1) (hm : ¬ l.count + 1 < most ∧ most ≠ 4294967295) : x.until_ true = x.afterLoop .maxTail i (l.count + 1) (fun _ => false) := by
  unfold M.until_
  rw [hin]
  dsimp only
  rw [hla, e2, e3, if_neg (by omega), if_neg (by decide), if_neg (by
      rw [Bool.and_eq_true]
      rintro ⟨q, _⟩
      rw [Bool.or_eq_true] at q
      rcases q with q | q
      · exact hm.1 (of_decide_eq_true q)
      · exact hm.2 (beq_iff_eq.mp q))]
theorem round_eq {x : M} {i : Nat} {l : Loop} {c : Int} {k : Kept} (hla : x.loopAt i = l) (ho : x.outermost = true) : x.round .maxMore i c true k =
    M.attempt (x.setLoop i fun l' => { l' with count := c, began := some x.pos }) (mkFrame .maxMore x.pc x.pos c k i l.began) (l.pc + 4) x.pos true := by
  unfold M.round
  rw [hla]
  have : (M.setLoop x i fun l' => { l' with count := c, began := if true = true then some x.pos else l'.began }).outermost = true := ho
  unfold mkFrame M.frame
  dsimp only
  rw [this]
  rfl
/-- one more turn -/
theorem i_round {i : Nat} {l : Loop} {least most : Nat} (s : S C T n none pc pos ((i, l) :: ls) v fs m) (hn : n ≤ 22) (hl : fs.length ≤ 100000)
    (h0 : C.getD pc 0 = 18) (h : pc < C.size) (h2 : C.getD (l.pc + 2) 0 = least) (h3 : C.getD (l.pc + 3) 0 = most) (hc : (least : Int) ≤ l.count + 1)
    (hm : l.count + 1 < most ∨ most = 4294967295) (hb : l.began ≠ some pos) :
    S C T n none (l.pc + 4) pos ((i, { l with count := l.count + 1, began := some pos }) :: ls) v (mkFrame .maxMore (pc + 1) pos (l.count + 1) (m.keep true) i l.began :: fs) m.step := by
  have : ops[m.word 0]? = some .MAX_UNTIL := by rw [word_eq s 0, Nat.add_zero, h0]; rfl
  have hin : m.inner = some i := s.inner
  have hla : M.loopAt { m with seen := m.seen.add (m.word 0), pc := m.pc + 1 } i = l := (S.loopAt s : m.loopAt i = l)
  have e : m.step = M.attempt (M.setLoop { m with seen := m.seen.add (m.word 0), pc := m.pc + 1 } i fun l' => { l' with count := l.count + 1, began := some m.pos }) (mkFrame .maxMore (m.pc + 1) m.pos (l.count + 1) (m.keep true) i l.began) (l.pc + 4) m.pos m.outermost := by
    rw [step_eq s h]
    unfold M.exec
    rw [this]
    dsimp only
    show M.until_ { m with seen := m.seen.add (m.word 0), pc := m.pc + 1 } true = _
    rw [until_round (x := { m with seen := m.seen.add (m.word 0), pc := m.pc + 1 }) (l := l) (least := least) (most := most) hin hla (by show m.code.getD _ 0 = _; rw [s.code]; exact h2) (by show m.code.getD _ 0 = _; rw [s.code]; exact h3) hc hm (by show l.began ≠ some m.pos; rw [s.pos]; exact hb)]
    rw [round_eq (x := { m with seen := m.seen.add (m.word 0), pc := m.pc + 1 }) (l := l) hla s.outer, s.outer]
    rfl
  have s1 : S C T n none (pc + 1) pos ((i, l) :: ls) v fs { m with seen := m.seen.add (m.word 0), pc := m.pc + 1 } := { s with pc := by show m.pc + 1 = _; rw [s.pc] }
  have s2 := S.setLoop (f := fun l' => { l' with count := l.count + 1, began := some m.pos }) s1
  have r := S.attempt (target := l.pc + 4) (frm := m.pos) (f := mkFrame .maxMore (m.pc + 1) m.pos (l.count + 1) (m.keep true) i l.began) s2 hn hl (keep_size s true)
  rw [e]
  have ep := s.pc
  have eq := s.pos
  subst ep eq
  exact r
/-- behind the loop -/
theorem S.afterLoop {i : Nat} {l : Loop} {c : Int} (s : S C T n none pc pos ((i, l) :: ls) v fs m) (hn : n ≤ 22) (hl : fs.length ≤ 100000) (ho : l.outer = ls.head?.map (·.1)) :
    ∃ k, S C T n none pc pos ls v (mkFrame .maxTail pc pos c k i none :: fs) (m.afterLoop .maxTail i c fun _ => false) := by
  refine ⟨M.keep { m with inner := l.outer } false, ?_⟩
  have hla := S.loopAt s
  have s1 : S C T n none pc pos ls v fs { m with inner := l.outer } := { s with
    inner := ho
    loops := fun p hp => s.loops p (.tail _ hp)
    dist := (List.pairwise_cons.mp s.dist).2 }
  have r := S.attempt (target := m.pc) (frm := m.pos) (f := mkFrame .maxTail m.pc m.pos c (M.keep { m with inner := l.outer } false) i none) s1 hn hl (Nat.zero_le _)
  have e : m.afterLoop .maxTail i c (fun _ => false) = M.attempt { m with inner := l.outer } (mkFrame .maxTail m.pc m.pos c (M.keep { m with inner := l.outer } false) i none) m.pc m.pos m.outermost := by
    unfold M.afterLoop
    rw [hla]
    unfold mkFrame M.frame
    dsimp only
    rw [s.outer]
  rw [e]
  have ep := s.pc
  have eq := s.pos
  subst ep eq
  exact r
theorem i_tail {i : Nat} {l : Loop} {least most : Nat} (s : S C T n none pc pos ((i, l) :: ls) v fs m) (hn : n ≤ 22) (hl : fs.length ≤ 100000)
    (h0 : C.getD pc 0 = 18) (h : pc < C.size) (h2 : C.getD (l.pc + 2) 0 = least) (h3 : C.getD (l.pc + 3) 0 = most) (hc : (least : Int) ≤ l.count + 1)
    (hm : ¬ l.count + 1 < most ∧ most ≠ 4294967295) (ho : l.outer = ls.head?.map (·.1)) :
    ∃ k, S C T n none (pc + 1) pos ls v (mkFrame .maxTail (pc + 1) pos (l.count + 1) k i none :: fs) m.step := by
  have : ops[m.word 0]? = some .MAX_UNTIL := by rw [word_eq s 0, Nat.add_zero, h0]; rfl
  have hin : m.inner = some i := s.inner
  have hla : M.loopAt { m with seen := m.seen.add (m.word 0), pc := m.pc + 1 } i = l := (S.loopAt s : m.loopAt i = l)
  have e : m.step = M.afterLoop { m with seen := m.seen.add (m.word 0), pc := m.pc + 1 } .maxTail i (l.count + 1) (fun _ => false) := by
    rw [step_eq s h]
    unfold M.exec
    rw [this]
    dsimp only
    show M.until_ { m with seen := m.seen.add (m.word 0), pc := m.pc + 1 } true = _
    rw [until_tail (x := { m with seen := m.seen.add (m.word 0), pc := m.pc + 1 }) (l := l) (least := least) (most := most) hin hla (by show m.code.getD _ 0 = _; rw [s.code]; exact h2) (by show m.code.getD _ 0 = _; rw [s.code]; exact h3) hc hm]
  have s1 : S C T n none (pc + 1) pos ((i, l) :: ls) v fs { m with seen := m.seen.add (m.word 0), pc := m.pc + 1 } := { s with pc := by show m.pc + 1 = _; rw [s.pc] }
  rw [e]
  exact S.afterLoop s1 hn hl ho
structure KeptIs (n : Nat) (v : Nat → Option Nat) (k : Kept) : Prop where
  whole : k.whole = true
  lo : -1 ≤ k.lastmark
  hi : k.lastmark < n
  size : k.marks.size = (k.lastmark + 1).toNat
  is : ∀ j, v j = if (j : Int) ≤ k.lastmark then k.marks.getD j none else none
theorem keep_is {a : Option Bool} (s : S C T n a pc pos ls v fs m) : KeptIs n v (m.keep true) := by
  refine ⟨rfl, s.lmlo, s.lmhi, ?_, fun j => ?_⟩
  · show (m.marks.extract 0 (m.lastmark + 1).toNat).size = _
    rw [Array.size_extract, s.msz]
    have := s.lmhi
    show _ = (m.lastmark + 1).toNat
    omega
  · rw [← s.vis j]
    unfold vis
    show (if (j : Int) ≤ m.lastmark then m.marks.getD j none else none) = (if (j : Int) ≤ m.lastmark then (m.marks.extract 0 (m.lastmark + 1).toNat).getD j none else none)
    have h1 := s.lmhi
    have h2 := s.msz
    by_cases q : (j : Int) ≤ m.lastmark
    · rw [if_pos q, if_pos q, Array.getD_eq_getD_getElem?, Array.getD_eq_getD_getElem?, Array.getElem?_extract, if_pos (by omega), Nat.zero_add]
    · rw [if_neg q, if_neg q]
theorem S.putBack {a : Option Bool} {v₀ : Nat → Option Nat} {k : Kept} (s : S C T n a pc pos ls v fs m) (hk : KeptIs n v₀ k) : S C T n a pc pos ls v₀ fs (m.putBack k) := by
  have hm : (m.putBack k).marks = k.marks ++ m.marks.extract k.marks.size m.marks.size := by
    unfold M.putBack; rw [hk.whole]; rfl
  have hsz : (m.putBack k).marks.size = n := by
    rw [hm, Array.size_append, Array.size_extract, s.msz, hk.size]
    have := hk.hi; have := hk.lo; omega
  exact { s with
    msz := hsz
    vis := fun j => by
      rw [hk.is j]
      unfold Rx.vis
      show (if (j : Int) ≤ k.lastmark then (m.putBack k).marks.getD j none else none) = _
      rw [hm]
      by_cases q : (j : Int) ≤ k.lastmark
      · have hz := hk.size
        rw [if_pos q, if_pos q, Array.getD_eq_getD_getElem?, Array.getD_eq_getD_getElem?, Array.getElem?_append_left (by omega)]
      · rw [if_neg q, if_neg q]
    lmlo := hk.lo
    lmhi := hk.hi }
theorem S.pop {a : Option Bool} {f : Frame} {r : List Frame} (s : S C T n a pc pos ls v (f :: r) m) (ho : f.outermost = true) :
    S C T n none f.pc f.pos ls v r { m with answer := none, frames := r, weight := m.weight - (1 + f.kept.marks.size), pc := f.pc, pos := f.pos, outermost := f.outermost } := { s with
  pc := rfl
  pos := rfl
  outer := ho
  ans := rfl
  frames := rfl
  wt := by
    show m.weight - (1 + f.kept.marks.size) = fsum r
    rw [s.wt]
    show 1 + f.kept.marks.size + fsum r - (1 + f.kept.marks.size) = fsum r
    omega
  kz := fun g hg => s.kz g (.tail _ hg) }
theorem pop_eq {b : Bool} {f : Frame} {r : List Frame} (s : S C T n (some b) pc pos ls v (f :: r) m) :
    m.step = M.resume { m with answer := none, frames := r, weight := m.weight - (1 + f.kept.marks.size), pc := f.pc, pos := f.pos, outermost := f.outermost } f b := by
  unfold M.step
  rw [s.out, s.ans, s.frames]
  rfl
theorem pop_more {i u p : Nat} {l : Loop} {c : Int} {k : Kept} {b : Option Nat} {r : List Frame} {v₀ : Nat → Option Nat} (s : S C T n (some false) pc pos ((i, l) :: ls) v (mkFrame .maxMore u p c k i b :: r) m)
    (hn : n ≤ 22) (hl : r.length ≤ 100000) (hk : KeptIs n v₀ k) (ho : l.outer = ls.head?.map (·.1)) :
    ∃ k', S C T n none u p ls v₀ (mkFrame .maxTail u p c k' i none :: r) m.step := by
  rw [pop_eq s]
  have s1 := S.pop s rfl
  have s2 := S.setLoop (f := fun l => { l with began := b }) s1
  have s3 := S.putBack s2 hk
  have s4 := S.setLoop (f := fun l => { l with count := c - 1 }) s3
  exact S.afterLoop (c := c) s4 hn hl ho
/-- the ways of a branch -/
def brFrame (pc pos : Nat) (k : Kept) : Frame := { wait := .nextBranch, pc := pc, pos := pos, outermost := true, kept := k }
theorem S.alternative {alt : Nat} {k : Kept} (s : S C T n none pc pos ls v fs m) (hn : n ≤ 22) (hl : fs.length ≤ 100000) (ha : C.getD alt 0 ≠ 0) (hk : k.marks.size ≤ n) :
    S C T n none (alt + 1) pos ls v (brFrame alt pos k :: fs) (m.alternative alt k) := by
  have e : m.alternative alt k = M.attempt m (brFrame alt m.pos k) (alt + 1) m.pos m.outermost := by
    unfold M.alternative
    rw [s.code, if_neg (by rw [beq_iff_eq]; exact ha)]
    unfold brFrame M.frame
    rw [s.outer]
  have r := S.attempt (target := alt + 1) (frm := m.pos) (f := brFrame alt m.pos k) s hn hl hk
  rw [e]
  have eq := s.pos
  subst eq
  exact r
theorem S.noAlternative {alt : Nat} {k : Kept} (s : S C T n none pc pos ls v fs m) (ha : C.getD alt 0 = 0) : S C T n (some false) pc pos ls v fs (m.alternative alt k) := by
  unfold M.alternative
  rw [s.code, if_pos (by rw [beq_iff_eq]; exact ha)]
  exact S.say s
theorem i_branch (s : S C T n none pc pos ls v fs m) (hn : n ≤ 22) (hl : fs.length ≤ 100000) (h0 : C.getD pc 0 = 7) (h : pc < C.size) (ha : C.getD (pc + 1) 0 ≠ 0) :
    S C T n none (pc + 2) pos ls v (brFrame (pc + 1) pos (m.keep m.inner.isSome) :: fs) m.step := by
  have : ops[m.word 0]? = some .BRANCH := by rw [word_eq s 0, Nat.add_zero, h0]; rfl
  have e : m.step = M.alternative { m with seen := m.seen.add (m.word 0) } (m.pc + 1) (m.keep m.inner.isSome) := by
    rw [step_eq s h]
    unfold M.exec
    rw [this]
    rfl
  rw [e]
  have r := S.alternative (alt := m.pc + 1) (k := m.keep m.inner.isSome) (S.seen (x := m.seen.add (m.word 0)) s) hn hl (by rw [s.pc]; exact ha) (keep_size s _)
  have ep := s.pc
  subst ep
  exact r
theorem pop_branch {a p : Nat} {k : Kept} {r : List Frame} {v₀ : Nat → Option Nat} (s : S C T n (some false) pc pos ls v (brFrame a p k :: r) m) (hn : n ≤ 22) (hl : r.length ≤ 100000) (hk : KeptIs n v₀ k) (hks : k.marks.size ≤ n) (ha : C.getD (a + C.getD a 0) 0 ≠ 0) :
    S C T n none (a + C.getD a 0 + 1) p ls v₀ (brFrame (a + C.getD a 0) p k :: r) m.step := by
  rw [pop_eq s]
  have s1 := S.pop s rfl
  have s2 := S.putBack s1 hk
  have s3 := S.alternative (alt := a + C.getD a 0) (k := k) s2 hn hl ha hks
  have hcode : m.code = C := s.code
  subst hcode
  exact s3
theorem pop_branch_end {a p : Nat} {k : Kept} {r : List Frame} {v₀ : Nat → Option Nat} (s : S C T n (some false) pc pos ls v (brFrame a p k :: r) m) (hk : KeptIs n v₀ k) (ha : C.getD (a + C.getD a 0) 0 = 0) :
    S C T n (some false) a p ls v₀ r m.step := by
  rw [pop_eq s]
  have s1 := S.pop s rfl
  have s2 := S.putBack s1 hk
  have s3 := S.noAlternative (alt := a + C.getD a 0) (k := k) s2 ha
  have hcode : m.code = C := s.code
  subst hcode
  exact s3
end
section
variable {C T : Array Nat}
def Acc (C : Array Nat) (i c : Nat) (b : Bool) : Prop := ∀ x, ∃ y, accepts C i c x = .ok (b, y)
theorem acc_lit {i c w : Nat} (h0 : C.getD i 0 = 16) (h1 : C.getD (i + 1) 0 = w) : Acc C i c (c == w) := fun x => by
  refine ⟨x, ?_⟩
  unfold accepts
  rw [h0, h1]
  rfl
theorem acc_not {i c w : Nat} (h0 : C.getD i 0 = 20) (h1 : C.getD (i + 1) 0 = w) : Acc C i c (c != w) := fun x => by
  refine ⟨x, ?_⟩
  unfold accepts
  rw [h0, h1]
  rfl
def isLet (c : Nat) : Bool := (Nat.ble 65 c && Nat.ble c 90) || (Nat.ble 97 c && Nat.ble c 122)
theorem acc_let {i c k : Nat} (hs : C.size = k + 3) (h0 : C.getD i 0 = 13) (h2 : C.getD (i + 2) 0 = 22) (h3 : C.getD (i + 3) 0 = 65) (h4 : C.getD (i + 4) 0 = 90)
    (h5 : C.getD (i + 5) 0 = 22) (h6 : C.getD (i + 6) 0 = 97) (h7 : C.getD (i + 7) 0 = 122) (h8 : C.getD (i + 8) 0 = 0) : Acc C i c (isLet c) := fun x => by
  unfold accepts
  rw [h0]
  show ∃ y, inSet C c C.size (i + 2) true x = .ok (isLet c, y)
  rw [hs]
  unfold inSet
  simp only [Nat.add_zero, h2]
  show ∃ y, (if (decide (C.getD (i + 2 + 1) 0 ≤ c) && decide (c ≤ C.getD (i + 2 + 2) 0)) = true then _ else _) = _
  rw [show i + 2 + 1 = i + 3 from rfl, show i + 2 + 2 = i + 4 from rfl, h3, h4]
  unfold isLet
  by_cases q : 65 ≤ c ∧ c ≤ 90
  · rw [if_pos (by simp [q])]
    have : (Nat.ble 65 c && Nat.ble c 90 || Nat.ble 97 c && Nat.ble c 122) = true := by simp [q]
    rw [this]
    exact ⟨_, rfl⟩
  · rw [if_neg (by simpa using fun a => by omega)]
    have e1 : (Nat.ble 65 c && Nat.ble c 90) = false := by
      cases hh : (Nat.ble 65 c && Nat.ble c 90) with
      | false => rfl
      | true => exfalso; simp at hh; omega
    rw [e1, Bool.false_or]
    unfold inSet
    simp only [Nat.add_zero, show i + 2 + 3 = i + 5 from rfl, h5]
    show ∃ y, (if (decide (C.getD (i + 5 + 1) 0 ≤ c) && decide (c ≤ C.getD (i + 5 + 2) 0)) = true then _ else _) = _
    rw [show i + 5 + 1 = i + 6 from rfl, show i + 5 + 2 = i + 7 from rfl, h6, h7]
    by_cases q2 : 97 ≤ c ∧ c ≤ 122
    · rw [if_pos (by simp [q2])]
      have : (Nat.ble 97 c && Nat.ble c 122) = true := by simp [q2]
      rw [this]
      exact ⟨_, rfl⟩
    · rw [if_neg (by simpa using fun a => by omega)]
      have e2 : (Nat.ble 97 c && Nat.ble c 122) = false := by
        cases hh : (Nat.ble 97 c && Nat.ble c 122) with
        | false => rfl
        | true => exfalso; simp at hh; omega
      rw [e2]
      unfold inSet
      simp only [Nat.add_zero, show i + 5 + 3 = i + 8 from rfl, h8]
      exact ⟨_, rfl⟩
theorem acc_dig {i c k : Nat} (hs : C.size = k + 3) (h0 : C.getD i 0 = 13) (h2 : C.getD (i + 2) 0 = 8) (h3 : C.getD (i + 3) 0 = 10) (h4 : C.getD (i + 4) 0 = 0) : Acc C i c (Unicode.isDecimal c) := fun x => by
  unfold accepts
  rw [h0]
  show ∃ y, inSet C c C.size (i + 2) true x = .ok (Unicode.isDecimal c, y)
  rw [hs]
  unfold inSet
  simp only [Nat.add_zero, h2]
  show ∃ y, (category (C.getD (i + 2 + 1) 0) c >>= fun b => _) = _
  rw [show i + 2 + 1 = i + 3 from rfl, h3]
  show ∃ y, (if (Unicode.isDecimal c != false) = true then _ else _) = _
  cases hd : Unicode.isDecimal c with
  | true => rw [if_pos (by decide)]; exact ⟨_, rfl⟩
  | false =>
    rw [if_neg (by decide)]
    unfold inSet
    simp only [Nat.add_zero, show i + 2 + 2 = i + 4 from rfl, h4]
    exact ⟨_, rfl⟩
theorem run_count {i : Nat} : ∀ (k N p f : Nat), (∀ j, j < k → Acc C i (T.getD (p + j) 0) true) → k ≤ N → (k = N ∨ Acc C i (T.getD (p + k) 0) false) → ∀ x, ∃ y, Sre.run C T i N p f x = .ok (f + k, y)
  | 0, 0, p, f, _, _, _ => fun x => ⟨x, rfl⟩
  | 0, N + 1, p, f, _, _, hs => fun x => by
    have h0 : Acc C i (T.getD p 0) false := hs.resolve_left (by omega)
    obtain ⟨y, hy⟩ := h0 x
    refine ⟨y, ?_⟩
    unfold Sre.run
    rw [hy]
    rfl
  | k + 1, 0, p, f, _, h, _ => by omega
  | k + 1, N + 1, p, f, ha, hk, hs => fun x => by
    obtain ⟨y, hy⟩ := ha 0 (by omega) x
    rw [Nat.add_zero] at hy
    obtain ⟨z, hz⟩ := run_count k N (p + 1) (f + 1) (fun j hj => by have := ha (j + 1) (by omega); rwa [show p + (j + 1) = p + 1 + j by omega] at this) (by omega)
      (hs.imp (by omega) fun h => by rwa [show p + (k + 1) = p + 1 + k by omega] at h) y
    refine ⟨z, ?_⟩
    unfold Sre.run
    rw [hy]
    show Sre.run C T i N (p + 1) (f + 1) y = _
    rw [hz]
    congr 2
    omega
end
def To (k : Nat) (m m' : M) : Prop := ∃ j, j ≤ k ∧ m.runFor j = m'
theorem To.refl (m : M) : To 0 m m := ⟨0, Nat.le_refl _, rfl⟩
theorem To.step {k : Nat} {m m' : M} (ho : m.outcome = none) (h : To k m.step m') : To (k + 1) m m' := by
  obtain ⟨j, hj, e⟩ := h
  refine ⟨j + 1, by omega, ?_⟩
  show (if m.outcome.isSome then m else M.runFor j m.step) = _
  rw [ho]; exact e
theorem To.trans {k k' : Nat} {m m' m'' : M} (h : To k m m') (h' : To k' m' m'') : To (k + k') m m'' := by
  obtain ⟨a, ha, e⟩ := h
  obtain ⟨b, hb, e'⟩ := h'
  exact ⟨a + b, by omega, by rw [runFor_add, e, e']⟩
theorem To.le {k k' : Nat} {m m' : M} (h : To k m m') (hk : k ≤ k') : To k' m m' := let ⟨j, hj, e⟩ := h; ⟨j, Nat.le_trans hj hk, e⟩
theorem To.ends {k k' : Nat} {m m' : M} {P : M → Prop} (h : To k m m') (h' : Ends k' m' P) : Ends (k + k') m P := by
  obtain ⟨a, ha, e⟩ := h
  obtain ⟨b, hb, x, y⟩ := h'
  refine ⟨a + b, by omega, ?_, ?_⟩ <;> rw [runFor_add, e] <;> assumption
def HasAt (C : Array Nat) (b : Nat) (l : List Nat) : Prop := ∀ j, j < l.length → C.getD (b + j) 0 = l.getD j 0 ∧ b + j < C.size
section
variable {C T : Array Nat} {b pos n : Nat} {ls : List (Nat × Loop)} {v : Nat → Option Nat} {fs : List Frame} {m : M}
/-- the dollar, or none -/
def codeD : List Nat := [24, 6, 0, 1, 16, 36, 1]
def dollar (T : Array Nat) (pos : Nat) (d : Bool) : Prop := if d = true then pos < T.size ∧ T.getD pos 0 = 36 else pos ≤ T.size ∧ (pos < T.size → T.getD pos 0 ≠ 36)
theorem seg_D {d : Bool} (s : S C T n none b pos ls v fs m) (hn : n ≤ 22) (hl : fs.length ≤ 100000) (hq : Quiet fs) (hc : HasAt C b codeD) (hd : dollar T pos d) :
    ∃ m' fs', To 1 m m' ∧ S C T n none (b + 7) (pos + d.toNat) ls v fs' m' ∧ Quiet fs' ∧ fs'.length ≤ fs.length + 1 := by
  have c0 : C.getD b 0 = 24 := (hc 0 (by decide)).1
  have c1 : C.getD (b + 1) 0 = 6 := (hc 1 (by decide)).1
  have c2 : C.getD (b + 2) 0 = 0 := (hc 2 (by decide)).1
  have c3 : C.getD (b + 3) 0 = 1 := (hc 3 (by decide)).1
  have c4 : C.getD (b + 4) 0 = 16 := (hc 4 (by decide)).1
  have c5 : C.getD (b + 5) 0 = 36 := (hc 5 (by decide)).1
  have hb : b < C.size := (hc 0 (by decide)).2
  have key : pos ≤ T.size ∧ d.toNat ≤ T.size - pos ∧ ∀ x, ∃ y, Sre.run C T (b + 4) (min 1 (T.size - pos)) pos 0 x = .ok (d.toNat, y) := by
    unfold dollar at hd
    cases d with
    | true =>
      rw [if_pos rfl] at hd
      refine ⟨by omega, by show 1 ≤ _; omega, ?_⟩
      have := run_count (C := C) (T := T) (i := b + 4) 1 (min 1 (T.size - pos)) pos 0 (fun j hj => by
        obtain rfl : j = 0 := by omega
        have := acc_lit (c := T.getD pos 0) c4 c5
        rw [hd.2] at this
        show Acc C (b + 4) (T.getD pos 0) true
        rw [hd.2]
        exact this) (by omega) (.inl (by omega))
      simpa using this
    | false =>
      rw [if_neg (by decide)] at hd
      refine ⟨hd.1, Nat.zero_le _, ?_⟩
      have := run_count (C := C) (T := T) (i := b + 4) 0 (min 1 (T.size - pos)) pos 0 (fun j hj => by omega) (Nat.zero_le _) (by
        by_cases q : pos < T.size
        · right
          have h1 := acc_lit (c := T.getD pos 0) c4 c5
          have h2 := hd.2 q
          rw [beq_eq_false_iff_ne.mpr h2] at h1
          exact h1
        · left; omega)
      simpa using this
  have r := i_rep1 (k := d.toNat) s hn hl c0 c1 c2 c3 hb key.1 key.2.2 (Nat.zero_le _) key.2.1
  exact ⟨_, _, To.step s.out (To.refl _), r, hq.cons rfl, Nat.le_refl _⟩
structure CodeG (C : Array Nat) (b k s2 most : Nat) : Prop where
  c0 : C.getD b 0 = 23
  c1 : C.getD (b + 1) 0 = s2 + 8
  c2 : C.getD (b + 2) 0 = 0
  c3 : C.getD (b + 3) 0 = 1
  c4 : C.getD (b + 4) 0 = 17
  c5 : C.getD (b + 5) 0 = k
  c6 : C.getD (b + 6) 0 = 24
  c7 : C.getD (b + 7) 0 = s2
  c8 : C.getD (b + 8) 0 = 1
  c9 : C.getD (b + 9) 0 = most
  e0 : C.getD (b + 7 + s2) 0 = 17
  e1 : C.getD (b + 7 + s2 + 1) 0 = k + 1
  u0 : C.getD (b + 9 + s2) 0 = 18
  sz : b + 10 + s2 ≤ C.size
theorem seg_G {k s2 most a : Nat} (s : S C T n none b pos ls v fs m) (hn : n ≤ 22) (hl : fs.length + 4 ≤ 100000) (hq : Quiet fs) (hk : k + 1 < n) (hc : CodeG C b k s2 most) (hp : pos + a ≤ T.size)
    (hr : ∀ x, ∃ y, Sre.run C T (b + 10) (min most (T.size - pos)) pos 0 x = .ok (a, y)) :
    ∃ m' fs', To 6 m m' ∧ S C T n none (b + 10 + s2) (pos + a) ls (if a = 0 then v else upd (upd v k pos) (k + 1) (pos + a)) fs' m' ∧ Quiet fs' ∧ fs'.length ≤ fs.length + 4 := by
  have hz := hc.sz
  obtain ⟨i, s1⟩ := i_repeat s hn (by omega) hc.c0 hc.c1 (by omega)
  rw [show b + 1 + (s2 + 8) = b + 9 + s2 by omega] at s1
  have s2' := i_round (least := 0) (most := 1) s1 hn (by simp; omega) hc.u0 (by omega) hc.c2 hc.c3 (by show ((0 : Nat) : Int) ≤ -1 + 1; decide) (.inl (by show (-1 : Int) + 1 < ((1 : Nat) : Int); decide)) (by simp)
  have s3 := i_mark s2' hc.c4 hc.c5 (by omega) (show b + 4 < C.size by omega)
  have hk2 := keep_is s1
  by_cases h0 : a = 0
  · subst h0
    have s4 := i_rep1_no (least := 1) (most := most) (k := 0) s3 hc.c6 hc.c8 hc.c9 (show b + 6 < C.size by omega) (by omega) hr (by omega)
    obtain ⟨k', s5⟩ := pop_more s4 hn (by simp; omega) hk2 rfl
    have ee : b + 9 + s2 + 1 = b + 10 + s2 := by omega
    have hT := To.le (k' := 6) (To.step s.out (To.step s1.out (To.step s2'.out (To.step s3.out (To.step s4.out (To.refl _)))))) (by omega)
    rw [if_pos rfl, Nat.add_zero, ← ee]
    exact ⟨_, _, hT, s5, (hq.cons rfl).cons rfl, by simp⟩
  · have s4 := i_rep1 (k := a) s3 hn (by simp; omega) hc.c6 hc.c7 hc.c8 hc.c9 (show b + 6 < C.size by omega) (by omega) hr (by omega) (by omega)
    rw [show b + 4 + 2 + 1 + s2 = b + 7 + s2 by omega] at s4
    have s5 := i_mark s4 hc.e0 hc.e1 (by omega) (by omega)
    rw [show b + 7 + s2 + 2 = b + 9 + s2 by omega] at s5
    obtain ⟨k', s6⟩ := i_tail (least := 0) (most := 1) s5 hn (by simp; omega) hc.u0 (by omega) hc.c2 hc.c3 (by show ((0 : Nat) : Int) ≤ -1 + 1 + 1; decide) ⟨by show ¬ (-1 : Int) + 1 + 1 < ((1 : Nat) : Int); decide, by decide⟩ rfl
    have ee : b + 9 + s2 + 1 = b + 10 + s2 := by omega
    have hT := To.step s.out (To.step s1.out (To.step s2'.out (To.step s3.out (To.step s4.out (To.step s5.out (To.refl _))))))
    rw [if_neg h0, ← ee]
    exact ⟨_, _, hT, s6, (((hq.cons rfl).cons rfl).cons rfl).cons rfl, by simp⟩
def vG (v : Nat → Option Nat) (k p a : Nat) : Nat → Option Nat := if a = 0 then v else upd (upd v k p) (k + 1) (p + a)
structure Half (T : Array Nat) (pos : Nat) (d1 : Bool) (a : Nat) (d2 : Bool) (c : Nat) : Prop where
  h1 : dollar T pos d1
  let_ : ∀ j, j < a → isLet (T.getD (pos + d1.toNat + j) 0) = true
  a3 : a ≤ 3
  la : pos + d1.toNat + a ≤ T.size
  ls : a = 3 ∨ pos + d1.toNat + a = T.size ∨ isLet (T.getD (pos + d1.toNat + a) 0) = false
  h2 : dollar T (pos + d1.toNat + a) d2
  dig : ∀ j, j < c → Unicode.isDecimal (T.getD (pos + d1.toNat + a + d2.toNat + j) 0) = true
  lc : pos + d1.toNat + a + d2.toNat + c ≤ T.size
  cs : pos + d1.toNat + a + d2.toNat + c = T.size ∨ Unicode.isDecimal (T.getD (pos + d1.toNat + a + d2.toNat + c) 0) = false
structure CodeH (C : Array Nat) (b k : Nat) : Prop where
  d1 : HasAt C b codeD
  l : CodeG C (b + 7) k 13 3
  l0 : C.getD (b + 17) 0 = 13
  l2 : C.getD (b + 19) 0 = 22
  l3 : C.getD (b + 20) 0 = 65
  l4 : C.getD (b + 21) 0 = 90
  l5 : C.getD (b + 22) 0 = 22
  l6 : C.getD (b + 23) 0 = 97
  l7 : C.getD (b + 24) 0 = 122
  l8 : C.getD (b + 25) 0 = 0
  d2 : HasAt C (b + 30) codeD
  n : CodeG C (b + 37) (k + 2) 9 4294967295
  n0 : C.getD (b + 47) 0 = 13
  n2 : C.getD (b + 49) 0 = 8
  n3 : C.getD (b + 50) 0 = 10
  n4 : C.getD (b + 51) 0 = 0
theorem size3 {C : Array Nat} {x : Nat} (h : x + 10 ≤ C.size) : ∃ k, C.size = k + 3 := ⟨C.size - 3, by omega⟩
theorem seg_H {k : Nat} {d1 d2 : Bool} {a c : Nat} (s : S C T n none b pos ls v fs m) (hn : n ≤ 22) (hl : fs.length + 20 ≤ 100000) (hq : Quiet fs) (hk : k + 3 < n) (hc : CodeH C b k) (h : Half T pos d1 a d2 c) (hT : T.size < 4294967295) :
    ∃ m' fs', To 14 m m' ∧ S C T n none (b + 56) (pos + d1.toNat + a + d2.toNat + c) ls (vG (vG v k (pos + d1.toNat) a) (k + 2) (pos + d1.toNat + a + d2.toNat) c) fs' m' ∧ Quiet fs' ∧ fs'.length ≤ fs.length + 10 := by
  obtain ⟨kk, hkk⟩ := size3 (C := C) (x := b + 7 + 13) (by have := hc.l.sz; omega)
  obtain ⟨m1, f1, t1, s1, q1, l1⟩ := seg_D s hn (by omega) hq hc.d1 h.h1
  have ra : ∀ x, ∃ y, Sre.run C T (b + 7 + 10) (min 3 (T.size - (pos + d1.toNat))) (pos + d1.toNat) 0 x = .ok (a, y) := by
    have := run_count (C := C) (T := T) (i := b + 17) a (min 3 (T.size - (pos + d1.toNat))) (pos + d1.toNat) 0
      (fun j hj => by have z := acc_let (c := T.getD (pos + d1.toNat + j) 0) hkk hc.l0 hc.l2 hc.l3 hc.l4 hc.l5 hc.l6 hc.l7 hc.l8; rwa [h.let_ j hj] at z)
      (by have := h.a3; have := h.la; omega)
      (by
        rcases h.ls with q | q | q
        · left; have := h.la; omega
        · left; have := h.a3; omega
        · right; have z := acc_let (c := T.getD (pos + d1.toNat + a) 0) hkk hc.l0 hc.l2 hc.l3 hc.l4 hc.l5 hc.l6 hc.l7 hc.l8; rwa [q] at z)
    simpa using this
  obtain ⟨m2, f2, t2, s2, q2, l2⟩ := seg_G s1 hn (by omega) q1 (by omega) hc.l h.la ra
  obtain ⟨m3, f3, t3, s3, q3, l3⟩ := seg_D s2 hn (by omega) q2 hc.d2 h.h2
  have rc : ∀ x, ∃ y, Sre.run C T (b + 37 + 10) (min 4294967295 (T.size - (pos + d1.toNat + a + d2.toNat))) (pos + d1.toNat + a + d2.toNat) 0 x = .ok (c, y) := by
    have := run_count (C := C) (T := T) (i := b + 47) c (min 4294967295 (T.size - (pos + d1.toNat + a + d2.toNat))) (pos + d1.toNat + a + d2.toNat) 0
      (fun j hj => by have z := acc_dig (c := T.getD (pos + d1.toNat + a + d2.toNat + j) 0) hkk hc.n0 hc.n2 hc.n3 hc.n4; rwa [h.dig j hj] at z)
      (by have := h.lc; omega)
      (by
        rcases h.cs with q | q
        · left; omega
        · right; have z := acc_dig (c := T.getD (pos + d1.toNat + a + d2.toNat + c) 0) hkk hc.n0 hc.n2 hc.n3 hc.n4; rwa [q] at z)
    simpa using this
  obtain ⟨m4, f4, t4, s4, q4, l4⟩ := seg_G s3 hn (by omega) q3 (by omega) hc.n h.lc rc
  exact ⟨m4, f4, ((t1.trans t2).trans (t3.trans t4)), s4, q4, by omega⟩
structure CodeT (C : Array Nat) (b k : Nat) : Prop where
  c0 : C.getD b 0 = 23
  c1 : C.getD (b + 1) 0 = 65
  c2 : C.getD (b + 2) 0 = 0
  c3 : C.getD (b + 3) 0 = 1
  c4 : C.getD (b + 4) 0 = 17
  c5 : C.getD (b + 5) 0 = k
  c6 : C.getD (b + 6) 0 = 16
  c7 : C.getD (b + 7) 0 = 58
  h : CodeH C (b + 8) (k + 2)
  e0 : C.getD (b + 64) 0 = 17
  e1 : C.getD (b + 65) 0 = k + 1
  u0 : C.getD (b + 66) 0 = 18
  sz : b + 67 < C.size
theorem seg_T {k : Nat} {d1 d2 : Bool} {a c : Nat} (s : S C T n none b pos ls v fs m) (hn : n ≤ 22) (hl : fs.length + 40 ≤ 100000) (hq : Quiet fs) (hk : k + 5 < n) (hc : CodeT C b k) (hp : pos < T.size) (hcol : T.getD pos 0 = 58) (h : Half T (pos + 1) d1 a d2 c) (hT : T.size < 4294967295) :
    ∃ m' fs', To 20 m m' ∧ S C T n none (b + 67) (pos + 1 + d1.toNat + a + d2.toNat + c) ls
      (upd (vG (vG (upd v k pos) (k + 2) (pos + 1 + d1.toNat) a) (k + 4) (pos + 1 + d1.toNat + a + d2.toNat) c) (k + 1) (pos + 1 + d1.toNat + a + d2.toNat + c)) fs' m' ∧ Quiet fs' ∧ fs'.length ≤ fs.length + 20 := by
  have hz := hc.sz
  obtain ⟨i, s1⟩ := i_repeat s hn (by omega) hc.c0 hc.c1 (by omega)
  rw [show b + 1 + 65 = b + 66 by omega] at s1
  have s2 := i_round (least := 0) (most := 1) s1 hn (by simp; omega) hc.u0 (by omega) hc.c2 hc.c3 (by show ((0 : Nat) : Int) ≤ -1 + 1; decide) (.inl (by show (-1 : Int) + 1 < ((1 : Nat) : Int); decide)) (by simp)
  have s3 := i_mark s2 hc.c4 hc.c5 (by omega) (show b + 4 < C.size by omega)
  have s4 := i_char (op := .LITERAL) (wd := 2) s3 (by show ops[C.getD (b + 6) 0]? = _; rw [hc.c6]; rfl) rfl (show b + 6 < C.size by omega) hp
    (by have z := acc_lit (c := T.getD pos 0) hc.c6 hc.c7; rw [hcol] at z ⊢; exact z) (by show itemWidth C (b + 6) = 2; unfold itemWidth; rw [hc.c6]; rfl)
  have s4' : S C T n none (b + 8) (pos + 1) _ _ _ _ := s4
  obtain ⟨m5, f5, t5, s5, q5, l5⟩ := seg_H s4' hn (by simp; omega) ((hq.cons rfl).cons rfl) (by omega) hc.h h hT
  have s6 := i_mark s5 hc.e0 hc.e1 (by omega) (by omega)
  obtain ⟨k', s7⟩ := i_tail (least := 0) (most := 1) s6 hn (by simp at l5; omega) (show C.getD (b + 66) 0 = 18 from hc.u0) (by omega) hc.c2 hc.c3 (by show ((0 : Nat) : Int) ≤ -1 + 1 + 1; decide) ⟨by show ¬ (-1 : Int) + 1 + 1 < ((1 : Nat) : Int); decide, by decide⟩ rfl
  have hT := (To.step s.out (To.step s1.out (To.step s2.out (To.step s3.out (To.refl _))))).trans (t5.trans (To.step s5.out (To.step s6.out (To.refl _))))
  exact ⟨_, _, hT, s7, q5.cons rfl, by simp at l5 ⊢; omega⟩
theorem seg_T0 {k : Nat} (s : S C T n none b pos ls v fs m) (hn : n ≤ 22) (hl : fs.length + 40 ≤ 100000) (hq : Quiet fs) (hk : k + 5 < n) (hc : CodeT C b k) (hcol : pos < T.size → T.getD pos 0 ≠ 58) :
    ∃ m' fs', To 20 m m' ∧ S C T n none (b + 67) pos ls v fs' m' ∧ Quiet fs' ∧ fs'.length ≤ fs.length + 20 := by
  have hz := hc.sz
  obtain ⟨i, s1⟩ := i_repeat s hn (by omega) hc.c0 hc.c1 (by omega)
  rw [show b + 1 + 65 = b + 66 by omega] at s1
  have s2 := i_round (least := 0) (most := 1) s1 hn (by simp; omega) hc.u0 (by omega) hc.c2 hc.c3 (by show ((0 : Nat) : Int) ≤ -1 + 1; decide) (.inl (by show (-1 : Int) + 1 < ((1 : Nat) : Int); decide)) (by simp)
  have s3 := i_mark s2 hc.c4 hc.c5 (by omega) (show b + 4 < C.size by omega)
  have hk2 := keep_is s1
  have s4 := i_char_no (op := .LITERAL) s3 (by show ops[C.getD (b + 6) 0]? = _; rw [hc.c6]; rfl) rfl (show b + 6 < C.size by omega)
    (fun hp => by have z := acc_lit (c := T.getD pos 0) hc.c6 hc.c7; rw [beq_eq_false_iff_ne.mpr (hcol hp)] at z; exact z)
  obtain ⟨k', s5⟩ := pop_more s4 hn (by simp; omega) hk2 rfl
  have hT := To.le (k' := 20) (To.step s.out (To.step s1.out (To.step s2.out (To.step s3.out (To.step s4.out (To.refl _)))))) (by omega)
  exact ⟨_, _, hT, s5, (hq.cons rfl).cons rfl, by simp⟩
end
def codeA : Array Nat := #[14, 4, 0, 0, 4294967295, 6, 0, 24, 6, 0, 1, 16, 36, 1, 23, 21, 0, 1, 17, 0, 24, 13, 1, 3, 13, 8, 22, 65, 90, 22, 97, 122, 0, 1, 17, 1, 18, 24, 6, 0, 1, 16, 36, 1, 23, 17, 0, 1, 17, 2, 24, 9, 1, 4294967295, 13, 4, 8, 10, 0, 1, 17, 3, 18, 23, 65, 0, 1, 17, 4, 16, 58, 24, 6, 0, 1, 16, 36, 1, 23, 21, 0, 1, 17, 6, 24, 13, 1, 3, 13, 8, 22, 65, 90, 22, 97, 122, 0, 1, 17, 7, 18, 24, 6, 0, 1, 16, 36, 1, 23, 17, 0, 1, 17, 8, 24, 9, 1, 4294967295, 13, 4, 8, 10, 0, 1, 17, 9, 18, 17, 5, 18, 6, 5, 1]
def codeS : Array Nat := #[14, 4, 0, 1, 4294967295, 17, 0, 7, 38, 17, 2, 16, 39, 17, 4, 23, 21, 0, 4294967295, 17, 6, 7, 5, 20, 39, 15, 9, 7, 16, 39, 16, 39, 15, 2, 0, 17, 7, 18, 17, 5, 16, 39, 17, 3, 15, 27, 25, 17, 8, 24, 17, 0, 4294967295, 13, 12, 21, 9, 0, 131, 1073741824, 0, 0, 0, 0, 0, 0, 1, 17, 9, 15, 2, 0, 17, 1, 16, 33, 17, 10, 24, 6, 0, 1, 16, 36, 1, 23, 21, 0, 1, 17, 12, 24, 13, 1, 3, 13, 8, 22, 65, 90, 22, 97, 122, 0, 1, 17, 13, 18, 24, 6, 0, 1, 16, 36, 1, 23, 17, 0, 1, 17, 14, 24, 9, 1, 4294967295, 13, 4, 8, 10, 0, 1, 17, 15, 18, 23, 65, 0, 1, 17, 16, 16, 58, 24, 6, 0, 1, 16, 36, 1, 23, 21, 0, 1, 17, 18, 24, 13, 1, 3, 13, 8, 22, 65, 90, 22, 97, 122, 0, 1, 17, 19, 18, 24, 6, 0, 1, 16, 36, 1, 23, 17, 0, 1, 17, 20, 24, 9, 1, 4294967295, 13, 4, 8, 10, 0, 1, 17, 21, 18, 17, 17, 18, 17, 11, 4, 10, 0, 24, 6, 0, 1, 16, 44, 1, 1, 1]
theorem cD {C : Array Nat} {b : Nat} (h : ((List.range 7).all fun j => C.getD (b + j) 0 == codeD.getD j 0 && decide (b + j < C.size)) = true) : HasAt C b codeD := fun j hj => by
  have := List.all_eq_true.mp h j (List.mem_range.mpr hj)
  rw [Bool.and_eq_true, beq_iff_eq, decide_eq_true_eq] at this
  exact this
theorem hA1 : CodeH codeA 7 0 := ⟨cD (by decide), ⟨rfl, rfl, rfl, rfl, rfl, rfl, rfl, rfl, rfl, rfl, rfl, rfl, rfl, by decide⟩, rfl, rfl, rfl, rfl, rfl, rfl, rfl, rfl, cD (by decide), ⟨rfl, rfl, rfl, rfl, rfl, rfl, rfl, rfl, rfl, rfl, rfl, rfl, rfl, by decide⟩, rfl, rfl, rfl, rfl⟩
theorem tA : CodeT codeA 63 4 := ⟨rfl, rfl, rfl, rfl, rfl, rfl, rfl, rfl, ⟨cD (by decide), ⟨rfl, rfl, rfl, rfl, rfl, rfl, rfl, rfl, rfl, rfl, rfl, rfl, rfl, by decide⟩, rfl, rfl, rfl, rfl, rfl, rfl, rfl, rfl, cD (by decide), ⟨rfl, rfl, rfl, rfl, rfl, rfl, rfl, rfl, rfl, rfl, rfl, rfl, rfl, by decide⟩, rfl, rfl, rfl, rfl⟩, rfl, rfl, rfl, by decide⟩
theorem hS1 : CodeH codeS 78 12 := ⟨cD (by decide), ⟨rfl, rfl, rfl, rfl, rfl, rfl, rfl, rfl, rfl, rfl, rfl, rfl, rfl, by decide⟩, rfl, rfl, rfl, rfl, rfl, rfl, rfl, rfl, cD (by decide), ⟨rfl, rfl, rfl, rfl, rfl, rfl, rfl, rfl, rfl, rfl, rfl, rfl, rfl, by decide⟩, rfl, rfl, rfl, rfl⟩
theorem tS : CodeT codeS 134 16 := ⟨rfl, rfl, rfl, rfl, rfl, rfl, rfl, rfl, ⟨cD (by decide), ⟨rfl, rfl, rfl, rfl, rfl, rfl, rfl, rfl, rfl, rfl, rfl, rfl, rfl, by decide⟩, rfl, rfl, rfl, rfl, rfl, rfl, rfl, rfl, cD (by decide), ⟨rfl, rfl, rfl, rfl, rfl, rfl, rfl, rfl, rfl, rfl, rfl, rfl, rfl, by decide⟩, rfl, rfl, rfl, rfl⟩, rfl, rfl, rfl, by decide⟩
/-- the spans that a match object bears -/
def spans (v : Nat → Option Nat) (g : Nat) : List Int := match v (2 * g), v (2 * g + 1) with
  | some b, some e => [(b : Int), (e : Int)]
  | _, _ => [-1, -1]
def Matched (m' : M) (v : Nat → Option Nat) (stop : Nat) : Prop := m'.outcome = some .matched ∧ m'.start = 0 ∧ m'.handed = stop ∧ ∀ j, vis m' j = v j
theorem finish {C T : Array Nat} {n pc pos : Nat} {ls : List (Nat × Loop)} {v : Nat → Option Nat} {fs : List Frame} {m : M} (s : S C T n none pc pos ls v fs m) (hq : Quiet fs) (h0 : C.getD pc 0 = 1) (h : pc < C.size) :
    Ends (fs.length + 2) m (fun m' => Matched m' v pos) := by
  obtain ⟨s1, hh⟩ := i_success s h0 h
  refine ends_step s.out ?_
  obtain ⟨k, hk, a, b1, b2, b3, b4, b5, b6⟩ := unwind fs m.step s1.frames hq s1.ans s1.out
  refine ⟨k, hk, a, b1, b2.trans s1.start, b3.trans hh, fun j => ?_⟩
  rw [← s1.vis j]
  unfold vis
  rw [b4, b5]
theorem fresh_A (T : Array Nat) : S codeA T 10 none 5 0 [] (fun _ => none) [] (Sre.forMatch codeA T 5 0 T.size false false) := by
  refine ⟨rfl, rfl, rfl, rfl, rfl, rfl, rfl, rfl, rfl, rfl, fun j => ?_, ?_, ?_, rfl, rfl, rfl, rfl, fun _ h => (nomatch h), rfl, fun _ h => (nomatch h), List.Pairwise.nil⟩
  · show (if (j : Int) ≤ -1 then _ else none) = none
    rw [if_neg (by omega)]
  · exact Int.le_refl _
  · show (-1 : Int) < 10; decide
theorem match_one {T : Array Nat} {d1 d2 : Bool} {a c : Nat} (h : Half T 0 d1 a d2 c) (he : 0 + d1.toNat + a + d2.toNat + c = T.size) (hT : T.size < 4294967295) :
    Ends 200 (Sre.forMatch codeA T 5 0 T.size false false) (fun m' => Matched m' (vG (vG (fun _ => none) 0 (0 + d1.toNat) a) 2 (0 + d1.toNat + a + d2.toNat) c) T.size) := by
  have s0 := fresh_A T
  have s1 := i_at0 s0 rfl rfl (by decide)
  obtain ⟨m2, f2, t2, s2, q2, l2⟩ := seg_H s1 (by decide) (by decide) (fun _ h => (nomatch h)) (by decide) hA1 h hT
  rw [he] at s2
  obtain ⟨m3, f3, t3, s3, q3, l3⟩ := seg_T0 s2 (by decide) (by simp at l2; omega) q2 (by decide) tA (fun q => by omega)
  have s4 := i_at5 s3 rfl rfl (by decide)
  exact ends_le (by simp at l2; omega) (To.ends ((To.step s0.out (To.refl _)).trans (t2.trans (t3.trans (To.step s3.out (To.refl _))))) (finish s4 q3 rfl (by decide)))
theorem match_two {T : Array Nat} {d1 d2 e1 e2 : Bool} {a c a' c' : Nat} (h : Half T 0 d1 a d2 c) (hcol : T.getD (0 + d1.toNat + a + d2.toNat + c) 0 = 58) (hlt : 0 + d1.toNat + a + d2.toNat + c < T.size)
    (h' : Half T (0 + d1.toNat + a + d2.toNat + c + 1) e1 a' e2 c') (he : 0 + d1.toNat + a + d2.toNat + c + 1 + e1.toNat + a' + e2.toNat + c' = T.size) (hT : T.size < 4294967295) :
    Ends 200 (Sre.forMatch codeA T 5 0 T.size false false) (fun m' => Matched m'
      (upd (vG (vG (upd (vG (vG (fun _ => none) 0 (0 + d1.toNat) a) 2 (0 + d1.toNat + a + d2.toNat) c) 4 (0 + d1.toNat + a + d2.toNat + c)) 6 (0 + d1.toNat + a + d2.toNat + c + 1 + e1.toNat) a') 8 (0 + d1.toNat + a + d2.toNat + c + 1 + e1.toNat + a' + e2.toNat) c') 5 T.size) T.size) := by
  have s0 := fresh_A T
  have s1 := i_at0 s0 rfl rfl (by decide)
  obtain ⟨m2, f2, t2, s2, q2, l2⟩ := seg_H s1 (by decide) (by decide) (fun _ h => (nomatch h)) (by decide) hA1 h hT
  obtain ⟨m3, f3, t3, s3, q3, l3⟩ := seg_T s2 (by decide) (by simp at l2; omega) q2 (by decide) tA hlt hcol h' hT
  rw [he] at s3
  have s4 := i_at5 s3 rfl rfl (by decide)
  exact ends_le (by simp at l2; omega) (To.ends ((To.step s0.out (To.refl _)).trans (t2.trans (t3.trans (To.step s3.out (To.refl _))))) (finish s4 q3 rfl (by decide)))
end Mine.Rx
end
section
set_option maxRecDepth 100000
set_option Elab.async false
set_option linter.unusedVariables false
namespace Mine.Rx
open PySem hiding Frame Kept
open PySem.Sre
section
variable {C T : Array Nat} {pc pos n : Nat} {ls : List (Nat × Loop)} {v : Nat → Option Nat} {fs : List Frame} {m : M}
structure KeptLo (n : Nat) (k : Kept) : Prop where
  whole : k.whole = false
  lo : -1 ≤ k.lastmark
  hi : k.lastmark < n
theorem keep_lo {a : Option Bool} (s : S C T n a pc pos ls v fs m) : KeptLo n (m.keep false) := ⟨rfl, s.lmlo, s.lmhi⟩
theorem S.putBack0 {a : Option Bool} {k : Kept} (s : S C T n a pc pos ls v fs m) (hk : KeptLo n k) : ∃ v', S C T n a pc pos ls v' fs (m.putBack k) := by
  have hm : (m.putBack k).marks = m.marks := by
    unfold M.putBack; rw [hk.whole]; rfl
  refine ⟨fun j => Rx.vis (m.putBack k) j, { s with msz := by rw [hm]; exact s.msz, vis := fun j => rfl, lmlo := hk.lo, lmhi := hk.hi }⟩
theorem pop_branch0 {a p : Nat} {k : Kept} {r : List Frame} (s : S C T n (some false) pc pos ls v (brFrame a p k :: r) m) (hn : n ≤ 22) (hl : r.length ≤ 100000) (hk : KeptLo n k) (hks : k.marks.size ≤ n) (ha : C.getD (a + C.getD a 0) 0 ≠ 0) :
    ∃ v', S C T n none (a + C.getD a 0 + 1) p ls v' (brFrame (a + C.getD a 0) p k :: r) m.step := by
  rw [pop_eq s]
  have s1 := S.pop s rfl
  obtain ⟨v', s2⟩ := S.putBack0 s1 hk
  have s3 := S.alternative (alt := a + C.getD a 0) (k := k) s2 hn hl ha hks
  have hcode : m.code = C := s.code
  subst hcode
  exact ⟨v', s3⟩
theorem pop_branch_end0 {a p : Nat} {k : Kept} {r : List Frame} (s : S C T n (some false) pc pos ls v (brFrame a p k :: r) m) (hk : KeptLo n k) (ha : C.getD (a + C.getD a 0) 0 = 0) :
    ∃ v', S C T n (some false) a p ls v' r m.step := by
  rw [pop_eq s]
  have s1 := S.pop s rfl
  obtain ⟨v', s2⟩ := S.putBack0 s1 hk
  have s3 := S.noAlternative (alt := a + C.getD a 0) (k := k) s2 ha
  have hcode : m.code = C := s.code
  subst hcode
  exact ⟨v', s3⟩
theorem pop_give {b p c skip : Nat} {k : Kept} {r : List Frame} (s : S C T n (some false) pc pos ls v (gbFrame b (p + 1) (c + 1) k :: r) m) (hn : n ≤ 22) (hl : r.length ≤ 100000) (hk : KeptLo n k) (hks : k.marks.size ≤ n)
    (h1 : C.getD (b + 1) 0 = skip) (h2 : C.getD (b + 2) 0 = 0) :
    ∃ v', S C T n none (b + 1 + skip) p ls v' (gbFrame b p c k :: r) m.step := by
  rw [pop_eq s]
  have s1 := S.pop s rfl
  obtain ⟨v', s2⟩ := S.putBack0 s1 hk
  have hcode : m.code = C := s.code
  subst hcode
  have s2p : S m.code T n none b p ls v' r { (M.putBack { m with answer := none, frames := r, weight := m.weight - (1 + (gbFrame b (p + 1) (c + 1) k).kept.marks.size), pc := b, pos := p + 1, outermost := true } k) with pos := p } := { s2 with pos := rfl }
  have s3 := S.attempt (target := b + 1 + skip) (frm := p) (f := gbFrame b p c k) s2p hn hl hks
  refine ⟨v', ?_⟩
  unfold M.resume
  show S m.code T n none (b + 1 + skip) p ls v' (gbFrame b p c k :: r) (if false = true then _ else if ((c + 1 : Nat) : Int) - 1 < ((m.code.getD (b + 2) 0 : Nat) : Int) then _ else _)
  rw [if_neg (by decide), h2, if_neg (by omega)]
  unfold M.afterRun
  have e1 : ((c + 1 : Nat) : Int) - 1 = (c : Int) := by omega
  show S m.code T n none (b + 1 + skip) p ls v' (gbFrame b p c k :: r) (M.attempt _ { wait := .giveBack, pc := b, pos := p + 1 - 1, outermost := true, count := ((c + 1 : Nat) : Int) - 1, kept := k } (b + 1 + m.code.getD (b + 1) 0) (p + 1 - 1) true)
  rw [e1, h1, Nat.add_sub_cancel]
  exact s3
theorem pop_give_end {b p : Nat} {k : Kept} {r : List Frame} (s : S C T n (some false) pc pos ls v (gbFrame b p 0 k :: r) m) (hk : KeptLo n k) (h2 : C.getD (b + 2) 0 = 0) :
    ∃ v', S C T n (some false) b p ls v' r m.step := by
  rw [pop_eq s]
  have s1 := S.pop s rfl
  obtain ⟨v', s2⟩ := S.putBack0 s1 hk
  have hcode : m.code = C := s.code
  subst hcode
  refine ⟨v', ?_⟩
  unfold M.resume
  show S m.code T n (some false) b p ls v' r (if false = true then _ else if ((0 : Nat) : Int) - 1 < ((m.code.getD (b + 2) 0 : Nat) : Int) then _ else _)
  rw [if_neg (by decide), h2, if_pos (by omega)]
  exact S.say s2
theorem failed (s : S C T n (some false) pc pos ls v [] m) : m.step.outcome = some .failed := by
  unfold M.step
  rw [s.out, s.ans, s.frames]
  rfl
end
def nqOk (c : Nat) : Bool := !(decide (c < 256) && (codeS.getD (57 + c / 32) 0).testBit (c % 32))
theorem acc_nq (c : Nat) : Acc codeS 53 c (nqOk c) := fun x => by
  unfold accepts
  show ∃ y, inSet codeS c (212 + 3) 55 true x = .ok (nqOk c, y)
  unfold inSet
  show ∃ y, inSet codeS c (212 + 2) 56 false _ = .ok (nqOk c, y)
  unfold inSet
  show ∃ y, (if (decide (c < 256) && (codeS.getD (56 + (1 + c / 32)) 0).testBit (c % 32)) = true then _ else inSet codeS c (212 + 1) 65 false _) = .ok (nqOk c, y)
  unfold nqOk
  rw [show 56 + (1 + c / 32) = 57 + c / 32 by omega]
  cases h : (decide (c < 256) && (codeS.getD (57 + c / 32) 0).testBit (c % 32)) with
  | true => rw [if_pos rfl]; exact ⟨_, rfl⟩
  | false =>
    rw [if_neg (by decide)]
    unfold inSet
    exact ⟨_, rfl⟩
theorem fresh_S (T : Array Nat) (h : 0 < T.size) : S codeS T 22 none 5 0 [] (fun _ => none) [] (Sre.forMatch codeS T 11 0 T.size false false) := by
  have e : Sre.forMatch codeS T 11 0 T.size false false = (if (1 : Nat) != 0 && decide (0 ≤ T.size) && decide (T.size - 0 < 1) then _ else { code := codeS, text := T, lim := T.size, start := 0, pc := 5, pos := 0, handed := 0, marks := Array.replicate 22 none, mustAdvance := false, seen := ({} : Seen).add 14, wholeText := false }) := rfl
  rw [e, if_neg (by rw [Bool.and_eq_true]; rintro ⟨_, q⟩; have := of_decide_eq_true q; omega)]
  refine ⟨rfl, rfl, rfl, rfl, rfl, rfl, rfl, rfl, rfl, rfl, fun j => ?_, ?_, ?_, rfl, rfl, rfl, rfl, fun _ h => (nomatch h), rfl, fun _ h => (nomatch h), List.Pairwise.nil⟩
  · show (if (j : Int) ≤ -1 then _ else none) = none
    rw [if_neg (by omega)]
  · exact Int.le_refl _
  · show (-1 : Int) < 22; decide
theorem give_all {T : Array Nat} {k : Kept} {r : List Frame} (hk : KeptLo 22 k) (hks : k.marks.size ≤ 22) (hl : r.length ≤ 1000) (hnq : ∀ j, j < T.size → T.getD j 0 ≠ 33) :
    ∀ (p : Nat) (v : Nat → Option Nat) (m : M), S codeS T 22 none 67 p [] v (gbFrame 49 p p k :: r) m →
      ∃ m' v', To (5 * p + 5) m m' ∧ S codeS T 22 (some false) 49 0 [] v' r m'
  | p, v, m, s => by
    have s1 := i_mark (i := 9) s rfl rfl (by decide) (by decide)
    have s2 := i_jump (k := 2) s1 rfl rfl (by decide)
    have s3 := i_mark (i := 1) s2 rfl rfl (by decide) (by decide)
    have s4 := i_char_no (op := .LITERAL) s3 rfl rfl (by decide) (fun q => by
      have z := acc_lit (C := codeS) (i := 74) (c := T.getD p 0) (w := 33) rfl rfl
      rw [beq_eq_false_iff_ne.mpr (hnq p q)] at z
      exact z)
    have t4 := To.step s.out (To.step s1.out (To.step s2.out (To.step s3.out (To.refl _))))
    match p with
    | 0 =>
      obtain ⟨v', s5⟩ := pop_give_end s4 hk rfl
      exact ⟨_, v', (t4.trans (To.step s4.out (To.refl _))).le (by omega), s5⟩
    | p + 1 =>
      obtain ⟨v', s5⟩ := pop_give (skip := 17) s4 (by decide) (by omega) hk hks rfl rfl
      obtain ⟨m', v'', t, s6⟩ := give_all hk hks hl hnq p v' _ s5
      exact ⟨m', v'', (t4.trans ((To.step s4.out (To.refl _)).trans t)).le (by omega), s6⟩
/-- a text without quote, blank, caret, mark of exclamation -/
theorem sheet_none {T : Array Nat} (h0 : 0 < T.size) (hT : T.size < 4294967295) (hq : ∀ j, j < T.size → nqOk (T.getD j 0) = true) :
    Ends (5 * T.size + 50) (Sre.forMatch codeS T 11 0 T.size false false) (fun m' => m'.outcome = some .failed) := by
  have n39 : ∀ c, nqOk c = true → c ≠ 39 := fun c h e => by subst e; exact absurd h (by decide)
  have n33 : ∀ c, nqOk c = true → c ≠ 33 := fun c h e => by subst e; exact absurd h (by decide)
  have s0 := fresh_S T h0
  have s1 := i_mark (i := 0) s0 rfl rfl (by decide) (by decide)
  have kl := keep_lo s1
  have hin : (Sre.forMatch codeS T 11 0 T.size false false).step.inner = none := s1.inner
  have s2 := i_branch s1 (by decide) (by decide) rfl (by decide) (by decide)
  rw [hin] at s2
  have s3 := i_mark (i := 2) s2 rfl rfl (by decide) (by decide)
  have s4 := i_char_no (op := .LITERAL) s3 rfl rfl (by decide) (fun q => by
      have z := acc_lit (C := codeS) (i := 11) (c := T.getD 0 0) (w := 39) rfl rfl
      rw [beq_eq_false_iff_ne.mpr (n39 _ (hq 0 q))] at z
      exact z)
  obtain ⟨v5, s5⟩ := pop_branch0 s4 (by decide) (by decide) kl (Nat.zero_le _) (by decide)
  have s5' : S codeS T 22 none 47 0 [] v5 (brFrame 46 0 _ :: []) _ := s5
  have s6 := i_mark (i := 8) s5' rfl rfl (by decide) (by decide)
  have hin6 : M.inner (M.step (M.step (M.step (M.step (M.step (M.step (Sre.forMatch codeS T 11 0 T.size false false)))))))= none := s6.inner
  have kl6 := keep_lo s6
  have ra : ∀ x, ∃ y, Sre.run codeS T (49 + 4) (min 4294967295 (T.size - 0)) 0 0 x = .ok (T.size, y) := by
    have := run_count (C := codeS) (T := T) (i := 53) T.size (min 4294967295 (T.size - 0)) 0 0 (fun j hj => by have z := acc_nq (T.getD (0 + j) 0); rw [Nat.zero_add] at z ⊢; rwa [hq j hj] at z) (by omega) (.inl (by omega))
    simpa using this
  have s7 := i_rep1 (skip := 17) (least := 0) (most := 4294967295) (k := T.size) s6 (by decide) (by show 1 ≤ 100000; decide) rfl rfl rfl rfl (by decide) (by omega) ra (by omega) (by omega)
  rw [hin6, Nat.zero_add] at s7
  obtain ⟨m8, v8, t8, s8⟩ := give_all kl6 (Nat.zero_le _) (by show 1 ≤ 1000; decide) (fun j hj => n33 _ (hq j hj)) T.size _ _ s7
  obtain ⟨v9, s9⟩ := pop_branch_end0 s8 kl rfl
  have t := (To.step s0.out (To.step s1.out (To.step s2.out (To.step s3.out (To.step s4.out (To.step s5.out (To.step s6.out (To.refl _)))))))).trans (t8.trans (To.step s8.out (To.refl _)))
  refine ends_le (k := 7 + (5 * T.size + 5 + 1) + 1) (by omega) (To.ends t (ends_step s9.out (ends_now ?_ (failed s9))))
  rw [failed s9]; rfl
noncomputable def dbl : List Nat → List Nat
  | [] => []
  | c :: r => if c = 39 then 39 :: 39 :: dbl r else c :: dbl r
structure Lp (v v' : Nat → Option Nat) : Prop where
  other : ∀ j, j ≠ 6 → j ≠ 7 → v' j = v j
  pair : (v' 6 = v 6 ∧ v' 7 = v 7) ∨ ∃ a b, v' 6 = some a ∧ v' 7 = some b ∧ a ≤ b
theorem Lp.turn {v v' : Nat → Option Nat} {p q : Nat} (hpq : p ≤ q) (h : Lp (upd (upd v 6 p) 7 q) v') : Lp v v' := by
  refine ⟨fun j h6 h7 => (h.other j h6 h7).trans (by unfold upd; rw [if_neg h7, if_neg h6]), .inr ?_⟩
  rcases h.pair with ⟨a, b⟩ | r
  · exact ⟨p, q, a.trans rfl, b.trans rfl, hpq⟩
  · exact r
/-- the text from a place on -/
def Reads (T : Array Nat) (p : Nat) (l : List Nat) : Prop := p + l.length ≤ T.size ∧ ∀ j, j < l.length → T.getD (p + j) 0 = l.getD j 0
theorem Reads.head {T : Array Nat} {p c : Nat} {l : List Nat} (h : Reads T p (c :: l)) : p < T.size ∧ T.getD p 0 = c := by
  refine ⟨?_, ?_⟩
  · have := h.1; simp at this; omega
  · have := h.2 0 (by simp); simpa using this
theorem Reads.tail {T : Array Nat} {p c : Nat} {l : List Nat} (h : Reads T p (c :: l)) : Reads T (p + 1) l := by
  refine ⟨?_, fun j hj => ?_⟩
  · have := h.1; simp at this; omega
  · have := h.2 (j + 1) (by simpa using hj)
    rw [show p + (j + 1) = p + 1 + j by omega] at this
    simpa using this
theorem quoted {T : Array Nat} {i : Nat} {rest : List Nat} : ∀ (nm : List Nat) (p : Nat) (l : Loop) (v : Nat → Option Nat) (fs : List Frame) (m : M),
    S codeS T 22 none 37 p [(i, l)] v fs m → l.pc = 15 → l.outer = none → -1 ≤ l.count → (∀ q, l.began = some q → q < p) → Reads T p (dbl nm ++ 39 :: 33 :: rest) → Quiet fs → fs.length + 10 * nm.length + 20 ≤ 100000 →
    ∃ m' fs' v', To (12 * nm.length + 20) m m' ∧ S codeS T 22 none 38 (p + (dbl nm).length) [] v' fs' m' ∧ Quiet fs' ∧ fs'.length ≤ fs.length + 6 * nm.length + 6 ∧ Lp v v'
  | [], p, l, v, fs, m, s, hp, ho, hc, hb, hr, hq, hl => by
    have r0 := Reads.head hr
    have r1 := Reads.head (Reads.tail hr)
    have s2 := i_round (least := 0) (most := 4294967295) s (by decide) (by omega) rfl (by decide) (by rw [hp]; rfl) (by rw [hp]; rfl) (by omega) (.inr rfl) (fun e => by have := hb p e; omega)
    rw [hp] at s2
    have k2 := keep_is s
    have s3 := i_mark (i := 6) s2 rfl rfl (by decide) (by decide)
    have hin3 : m.step.step.inner = some i := s3.inner
    have k3 := keep_is s3
    have s4 := i_branch s3 (by decide) (by simp; omega) rfl (by decide) (by decide)
    rw [hin3] at s4
    have s5 := i_char_no (op := .NOT_LITERAL) s4 rfl rfl (by decide) (fun _ => by have z := acc_not (C := codeS) (i := 23) (c := T.getD p 0) (w := 39) rfl rfl; rw [r0.2] at z ⊢; exact z)
    have s6 := pop_branch s5 (by decide) (by simp; omega) k3 (keep_size s3 true) (by decide)
    have s6' : S codeS T 22 none 28 p _ _ _ _ := s6
    have s7 := i_char (op := .LITERAL) (wd := 2) s6' rfl rfl (by decide) r0.1 (by have z := acc_lit (C := codeS) (i := 28) (c := T.getD p 0) (w := 39) rfl rfl; rw [r0.2] at z ⊢; exact z) rfl
    have s8 := i_char_no (op := .LITERAL) s7 rfl rfl (by decide) (fun _ => by have z := acc_lit (C := codeS) (i := 30) (c := T.getD (p + 1) 0) (w := 39) rfl rfl; rw [r1.2] at z ⊢; exact z)
    have s9 := pop_branch_end s8 k3 rfl
    obtain ⟨k', s10⟩ := pop_more s9 (by decide) (by omega) k2 ho
    refine ⟨_, _, v, (To.step s.out (To.step s2.out (To.step s3.out (To.step s4.out (To.step s5.out (To.step s6.out (To.step s7.out (To.step s8.out (To.step s9.out (To.refl _)))))))))).le (by omega), s10, hq.cons rfl, by simp, ⟨fun _ _ _ => rfl, .inl ⟨rfl, rfl⟩⟩⟩
  | c :: nm, p, l, v, fs, m, s, hp, ho, hc, hb, hr, hq, hl => by
    have s2 := i_round (least := 0) (most := 4294967295) s (by decide) (by simp at hl; omega) rfl (by decide) (by rw [hp]; rfl) (by rw [hp]; rfl) (by omega) (.inr rfl) (fun e => by have := hb p e; omega)
    rw [hp] at s2
    have s3 := i_mark (i := 6) s2 rfl rfl (by decide) (by decide)
    have hin3 : m.step.step.inner = some i := s3.inner
    have k3 := keep_is s3
    have s4 := i_branch s3 (by decide) (by simp at hl ⊢; omega) rfl (by decide) (by decide)
    rw [hin3] at s4
    by_cases h39 : c = 39
    · subst h39
      have ed : dbl (39 :: nm) = 39 :: 39 :: dbl nm := rfl
      rw [ed] at hr ⊢
      have r0 := Reads.head hr
      have r1 := Reads.head (Reads.tail hr)
      have s5 := i_char_no (op := .NOT_LITERAL) s4 rfl rfl (by decide) (fun _ => by have z := acc_not (C := codeS) (i := 23) (c := T.getD p 0) (w := 39) rfl rfl; rw [r0.2] at z ⊢; exact z)
      have s6 := pop_branch s5 (by decide) (by simp at hl ⊢; omega) k3 (keep_size s3 true) (by decide)
      have s6' : S codeS T 22 none 28 p _ _ _ _ := s6
      have s7 := i_char (op := .LITERAL) (wd := 2) s6' rfl rfl (by decide) r0.1 (by have z := acc_lit (C := codeS) (i := 28) (c := T.getD p 0) (w := 39) rfl rfl; rw [r0.2] at z ⊢; exact z) rfl
      have s8 := i_char (op := .LITERAL) (wd := 2) s7 rfl rfl (by decide) r1.1 (by have z := acc_lit (C := codeS) (i := 30) (c := T.getD (p + 1) 0) (w := 39) rfl rfl; rw [r1.2] at z ⊢; exact z) rfl
      have s9 := i_jump (k := 2) s8 rfl rfl (by decide)
      have s10 := i_mark (i := 7) s9 rfl rfl (by decide) (by decide)
      obtain ⟨m', fs', v', t, s11, q11, l11, p11⟩ := quoted nm (p + 1 + 1) _ _ _ _ s10 rfl ho (by show -1 ≤ l.count + 1; omega) (fun q e => by cases e; omega) (Reads.tail (Reads.tail hr)) (((hq.cons rfl).cons rfl)) (by simp at hl ⊢; omega)
      refine ⟨m', fs', v', ((To.step s.out (To.step s2.out (To.step s3.out (To.step s4.out (To.step s5.out (To.step s6.out (To.step s7.out (To.step s8.out (To.step s9.out (To.refl _)))))))))).trans t).le (by simp; omega), ?_, q11, by simp at l11 ⊢; omega, Lp.turn (by omega) p11⟩
      have : p + (39 :: 39 :: dbl nm).length = p + 1 + 1 + (dbl nm).length := by simp; omega
      rw [this]; exact s11
    · have ed : dbl (c :: nm) = c :: dbl nm := by show (if c = 39 then _ else _) = _; rw [if_neg h39]
      rw [ed] at hr ⊢
      have r0 := Reads.head hr
      have s5 := i_char (op := .NOT_LITERAL) (wd := 2) s4 rfl rfl (by decide) r0.1 (by have z := acc_not (C := codeS) (i := 23) (c := T.getD p 0) (w := 39) rfl rfl; rw [r0.2] at z ⊢; rwa [bne_iff_ne.mpr h39] at z) rfl
      have s6 := i_jump (k := 9) s5 rfl rfl (by decide)
      have s7 := i_mark (i := 7) s6 rfl rfl (by decide) (by decide)
      obtain ⟨m', fs', v', t, s11, q11, l11, p11⟩ := quoted nm (p + 1) _ _ _ _ s7 rfl ho (by show -1 ≤ l.count + 1; omega) (fun q e => by cases e; omega) (Reads.tail hr) (((hq.cons rfl).cons rfl)) (by simp at hl ⊢; omega)
      refine ⟨m', fs', v', ((To.step s.out (To.step s2.out (To.step s3.out (To.step s4.out (To.step s5.out (To.step s6.out (To.refl _))))))).trans t).le (by simp; omega), ?_, q11, by simp at l11 ⊢; omega, Lp.turn (by omega) p11⟩
      have : p + (c :: dbl nm).length = p + 1 + (dbl nm).length := by simp; omega
      rw [this]; exact s11
section
variable {T : Array Nat} {ls : List (Nat × Loop)} {v : Nat → Option Nat} {fs : List Frame} {m : M}
def lookFrame (pc pos : Nat) (k : Kept) : Frame := { wait := .look, pc := pc, pos := pos, outermost := true, kept := k }
/-- the look ahead at the text's end -/
theorem i_look (s : S codeS T 22 none 203 T.size ls v fs m) (hl : fs.length + 5 ≤ 100000) : ∃ m', To 5 m m' ∧ S codeS T 22 none 214 T.size ls v fs m' := by
  have w (k : Nat) : m.word k = codeS.getD (203 + k) 0 := word_eq s k
  have e1 : m.step = { m with seen := m.seen.add (m.word 0), frames := lookFrame 203 T.size (m.keep false) :: fs, weight := fsum fs + 1, pc := 206, pos := T.size, handed := T.size, outermost := false } := by
    rw [step_eq s (by decide)]
    unfold M.exec
    have : ops[m.word 0]? = some .ASSERT := by rw [w 0]; rfl
    rw [this]
    dsimp only
    have w2 : M.word { m with seen := m.seen.add (m.word 0) } 2 = 0 := w 2
    rw [w2, if_neg (by omega)]
    have hw : M.weight { m with seen := m.seen.add (m.word 0) } + 1 + 0 ≤ 16777216 := room_ok s (by decide) (by omega) (Nat.zero_le _)
    rw [attempt_eq _ _ _ _ hw]
    unfold M.frame lookFrame
    have h1 := s.pc
    have h2 := s.pos
    have h3 := s.outer
    have h4 := s.wt
    have h5 := s.frames
    dsimp only
    rw [h1, h2, h3, h4, h5]
    rfl
  have o1 : m.step.outcome = none := by rw [e1]; exact s.out
  have e2 : m.step.step = { m.step with seen := (m.step.seen.add (m.step.word 0)).add (m.step.word 4), frames := { wait := .giveBack, pc := 206, pos := T.size, outermost := false, count := 0, kept := m.step.keep m.step.inner.isSome } :: lookFrame 203 T.size (m.keep false) :: fs, weight := fsum fs + 1 + 1 + (m.step.keep m.step.inner.isSome).marks.size, pc := 213, pos := T.size, handed := T.size } := by
    have a1 : m.step.answer = none := by rw [e1]; exact s.ans
    have c1 : m.step.code = codeS := by rw [e1]; exact s.code
    have p1 : m.step.pc = 206 := by rw [e1]
    have q1 : m.step.pos = T.size := by rw [e1]
    have l1 : m.step.lim = T.size := by rw [e1]; exact s.lim
    have f1 : m.step.frames = lookFrame 203 T.size (m.keep false) :: fs := by rw [e1]
    have g1 : m.step.weight = fsum fs + 1 := by rw [e1]
    have u1 : m.step.outermost = false := by rw [e1]
    have z1 : m.step.marks.size = 22 := by rw [e1]; exact s.msz
    generalize m.step = x at *
    have hs : x.step = x.exec := by
      unfold M.step
      rw [o1, a1]
      show (if x.pc < x.code.size then x.exec else _) = _
      rw [p1, c1, if_pos (by decide)]
    rw [hs]
    unfold M.exec
    have w (k : Nat) : x.word k = codeS.getD (206 + k) 0 := by unfold M.word; rw [p1, c1]
    have : ops[x.word 0]? = some .REPEAT_ONE := by rw [w 0]; rfl
    rw [this]
    dsimp only
    have w2 : M.word { x with seen := x.seen.add (x.word 0) } 2 = 0 := w 2
    have w3 : M.word { x with seen := x.seen.add (x.word 0) } 3 = 1 := w 3
    have hroom : ((x.lim : Int) - x.pos).toNat = 0 := by rw [l1, q1]; omega
    rw [w2, w3, if_neg (by rw [l1, q1]; omega), hroom]
    have hk : (x.keep x.inner.isSome).marks.size ≤ 22 := by
      unfold M.keep
      cases x.inner.isSome with
      | false => exact Nat.zero_le _
      | true => show (x.marks.extract 0 (x.lastmark + 1).toNat).size ≤ 22; rw [Array.size_extract, z1]; omega
    have hw : x.weight + 1 + (x.keep x.inner.isSome).marks.size ≤ 16777216 := by
      have h1 := fsum_le s.kz
      have : fs.length * (22 + 1) ≤ 100000 * 23 := Nat.mul_le_mul (by omega) (by omega)
      rw [g1]
      omega
    show M.attempt { x with seen := (x.seen.add (x.word 0)).add (x.word 4), pos := x.pos + 0 } { wait := .giveBack, pc := x.pc, pos := x.pos + 0, outermost := x.outermost, count := 0, kept := x.keep x.inner.isSome } (x.pc + 1 + x.word 1) (x.pos + 0) x.outermost = _
    rw [attempt_eq _ _ _ _ hw]
    have w1 : x.word 1 = 6 := w 1
    dsimp only
    rw [f1, g1, p1, q1, w1, u1]
    rfl
  have o2 : m.step.step.outcome = none := by rw [e2]; exact o1
  have e3 : m.step.step.step = { m.step.step with seen := m.step.step.seen.add (m.step.step.word 0), handed := T.size, answer := some true } := by
    have a1 : m.step.step.answer = none := by rw [e2, e1]; exact s.ans
    have c1 : m.step.step.code = codeS := by rw [e2, e1]; exact s.code
    have p1 : m.step.step.pc = 213 := by rw [e2]
    have q1 : m.step.step.pos = T.size := by rw [e2]
    have u1 : m.step.step.outermost = false := by rw [e2, e1]
    generalize m.step.step = x at *
    have hs : x.step = x.exec := by
      unfold M.step
      rw [o2, a1]
      show (if x.pc < x.code.size then x.exec else _) = _
      rw [p1, c1, if_pos (by decide)]
    rw [hs]
    unfold M.exec
    have : ops[x.word 0]? = some .SUCCESS := by unfold M.word; rw [p1, c1]; rfl
    rw [this]
    dsimp only
    rw [u1]
    show M.say { x with seen := x.seen.add (x.word 0), outermost := false, handed := x.pos } true = _
    unfold M.say
    rw [← u1, q1]
  have o3 : m.step.step.step.outcome = none := by rw [e3]; exact o2
  have e4 : m.step.step.step.step = { m.step.step.step with frames := lookFrame 203 T.size (m.keep false) :: fs, weight := m.step.step.step.weight - (1 + (m.step.keep m.step.inner.isSome).marks.size), pc := 206, pos := T.size, outermost := false } := by
    have a1 : m.step.step.step.answer = some true := by rw [e3]
    have f1 : m.step.step.step.frames = { wait := .giveBack, pc := 206, pos := T.size, outermost := false, count := 0, kept := m.step.keep m.step.inner.isSome } :: lookFrame 203 T.size (m.keep false) :: fs := by rw [e3, e2]
    generalize m.step.step.step = x at *
    generalize m.step.keep m.step.inner.isSome = KP at *
    unfold M.step
    rw [o3, a1, f1]
    show M.say _ true = _
    unfold M.say
    dsimp only
    rw [a1, o3]
  have o4 : m.step.step.step.step.outcome = none := by rw [e4]; exact o3
  have e5 : m.step.step.step.step.step = { m.step.step.step.step with answer := none, frames := fs, weight := m.step.step.step.step.weight - (1 + 0), pc := 214, pos := T.size, outermost := true } := by
    have a1 : m.step.step.step.step.answer = some true := by rw [e4, e3]
    have f1 : m.step.step.step.step.frames = lookFrame 203 T.size (m.keep false) :: fs := by rw [e4]
    have c1 : m.step.step.step.step.code = codeS := by rw [e4, e3, e2, e1]; exact s.code
    generalize m.step.step.step.step = x at *
    unfold M.step
    rw [o4, a1, f1]
    show { x with answer := none, frames := fs, weight := x.weight - (1 + 0), pc := 203 + 1 + x.code.getD (203 + 1) 0, pos := T.size, outermost := true, outcome := none } = _
    rw [c1]
    dsimp only
    rw [o4, c1]
    rfl
  refine ⟨_, To.step s.out (To.step o1 (To.step o2 (To.step o3 (To.step o4 (To.refl _))))), ?_⟩
  rw [e5, e4, e3, e2, e1]
  exact { s with
    pc := rfl
    pos := rfl
    outer := rfl
    ans := rfl
    frames := rfl
    wt := by
      show fsum fs + 1 + 1 + _ - (1 + _) - (1 + 0) = fsum fs
      omega }
end
structure Pre (L : Nat) (v : Nat → Option Nat) : Prop where
  v4 : v 4 = some 1
  v5 : v 5 = some (1 + L)
  v10 : v 10 = some (3 + L)
  no : ∀ j, j = 8 ∨ j = 9 ∨ 11 ≤ j → v j = none
  o0 : v 0 = some 0 ∧ v 1 = some (2 + L)
  o1 : v 2 = some 0 ∧ v 3 = some (2 + L)
  o3 : (v 6 = none ∧ v 7 = none) ∨ ∃ a b, v 6 = some a ∧ v 7 = some b ∧ a ≤ b
theorem sheet_pre {T : Array Nat} {nm rest : List Nat} (h0 : Reads T 0 (39 :: (dbl nm ++ 39 :: 33 :: rest))) (hl : nm.length ≤ 1000) :
    ∃ m' fs' v', To (12 * nm.length + 40) (Sre.forMatch codeS T 11 0 T.size false false) m' ∧ S codeS T 22 none 78 (3 + (dbl nm).length) [] v' fs' m' ∧ Quiet fs' ∧ fs'.length ≤ 6 * nm.length + 20 ∧ Pre (dbl nm).length v' := by
  have r0 := Reads.head h0
  have s0 := fresh_S T (by omega)
  have s1 := i_mark (i := 0) s0 rfl rfl (by decide) (by decide)
  have s2 := i_branch s1 (by decide) (by decide) rfl (by decide) (by decide)
  have s3 := i_mark (i := 2) s2 rfl rfl (by decide) (by decide)
  have s4 := i_char (op := .LITERAL) (wd := 2) s3 rfl rfl (by decide) r0.1 (by have z := acc_lit (C := codeS) (i := 11) (c := T.getD 0 0) (w := 39) rfl rfl; rw [r0.2] at z ⊢; exact z) rfl
  have s5 := i_mark (i := 4) s4 rfl rfl (by decide) (by decide)
  obtain ⟨i, s6⟩ := i_repeat (skip := 21) s5 (by decide) (by show 1 ≤ 100000; decide) rfl rfl (by decide)
  have q6 : Quiet ([brFrame (7 + 1) 0 ((Sre.forMatch codeS T 11 0 T.size false false).step.keep (Sre.forMatch codeS T 11 0 T.size false false).step.inner.isSome)]) := Quiet.cons rfl (fun _ h => (nomatch h))
  obtain ⟨m7, f7, v7, t7, s7, q7, l7, p7⟩ := quoted nm 1 _ _ _ _ s6 rfl rfl (by decide) (fun q e => by cases e) (Reads.tail h0) (q6.cons rfl) (by simp; omega)
  have hlen : ∀ l : List Nat, ∀ p, Reads T p (l ++ 39 :: 33 :: rest) → Reads T (p + l.length) (39 :: 33 :: rest) := by
    intro l
    induction l with
    | nil => intro p h; exact h
    | cons x l ih =>
      intro p h
      have := ih (p + 1) (Reads.tail h)
      have e : p + (x :: l).length = p + 1 + l.length := by simp; omega
      rw [e]; exact this
  have rq := hlen (dbl nm) 1 (Reads.tail h0)
  have ra := Reads.head rq
  have rb := Reads.head (Reads.tail rq)
  have s8 := i_mark (i := 5) s7 rfl rfl (by decide) (by decide)
  have s9 := i_char (op := .LITERAL) (wd := 2) s8 rfl rfl (by decide) ra.1 (by have z := acc_lit (C := codeS) (i := 40) (c := T.getD (1 + (dbl nm).length) 0) (w := 39) rfl rfl; rw [ra.2] at z ⊢; exact z) rfl
  have s10 := i_mark (i := 3) s9 rfl rfl (by decide) (by decide)
  have s11 := i_jump (k := 27) s10 rfl rfl (by decide)
  have s12 := i_mark (i := 1) s11 rfl rfl (by decide) (by decide)
  have s13 := i_char (op := .LITERAL) (wd := 2) s12 rfl rfl (by decide) rb.1 (by have z := acc_lit (C := codeS) (i := 74) (c := T.getD (1 + (dbl nm).length + 1) 0) (w := 33) rfl rfl; rw [rb.2] at z ⊢; exact z) rfl
  have s14 := i_mark (i := 10) s13 rfl rfl (by decide) (by decide)
  have ep : 1 + (dbl nm).length + 1 + 1 = 3 + (dbl nm).length := by omega
  have ep2 : 1 + (dbl nm).length + 1 = 2 + (dbl nm).length := by omega
  rw [ep] at s14
  have t := (To.step s0.out (To.step s1.out (To.step s2.out (To.step s3.out (To.step s4.out (To.step s5.out (To.refl _))))))).trans (t7.trans (To.step s7.out (To.step s8.out (To.step s9.out (To.step s10.out (To.step s11.out (To.step s12.out (To.step s13.out (To.refl _)))))))))
  refine ⟨_, _, _, t.le (by omega), s14, q7, by simp at l7; omega, ?_⟩
  have o := p7.other
  refine ⟨?_, ?_, ?_, ?_, ?_, ?_, ?_⟩
  · show v7 4 = _; rw [o 4 (by decide) (by decide)]; rfl
  · rfl
  · rfl
  · intro j hj
    unfold upd
    rw [if_neg (by omega), if_neg (by omega), if_neg (by omega), if_neg (by omega), o j (by omega) (by omega)]
    unfold upd
    rw [if_neg (by omega), if_neg (by omega), if_neg (by omega)]
  · refine ⟨?_, ?_⟩
    · show v7 0 = _; rw [o 0 (by decide) (by decide)]; rfl
    · show some _ = some _; rw [ep2]
  · refine ⟨?_, ?_⟩
    · show v7 2 = _; rw [o 2 (by decide) (by decide)]; rfl
    · show some _ = some _; rw [ep2]
  · exact p7.pair
structure SheetM (T : Array Nat) (L : Nat) (m' : M) : Prop where
  out : m'.outcome = some .matched
  start : m'.start = 0
  handed : m'.handed = T.size
  v4 : vis m' 4 = some 1
  v5 : vis m' 5 = some (1 + L)
  v8 : vis m' 8 = none
  v10 : vis m' 10 = some (3 + L)
  v11 : vis m' 11 = some T.size
  ord : ∀ g, g < 11 → ∀ b e, vis m' (2 * g) = some b → vis m' (2 * g + 1) = some e → b ≤ e
theorem vG_other {v : Nat → Option Nat} {k p a j : Nat} (h1 : j ≠ k) (h2 : j ≠ k + 1) : vG v k p a j = v j := by
  unfold vG upd
  split
  · rfl
  · dsimp only; rw [if_neg h2, if_neg h1]
theorem vG_pair {v : Nat → Option Nat} {k p a : Nat} (h1 : v k = none) : ∀ b e, vG v k p a k = some b → vG v k p a (k + 1) = some e → b ≤ e := by
  intro b e hb he
  unfold vG upd at hb he
  split at hb
  · rw [h1] at hb; cases hb
  · rename_i h
    rw [if_neg h] at he
    dsimp only at hb he
    rw [if_pos rfl] at he
    rw [if_neg (by omega), if_pos rfl] at hb
    cases hb; cases he; omega
theorem sheet_of {T : Array Nat} {L : Nat} {v0 v : Nat → Option Nat} {m' : M} (hm : Matched m' v T.size) (p : Pre L v0) (h11 : v 11 = some T.size) (hs : 3 + L ≤ T.size)
    (same : ∀ j, j < 11 → v j = v0 j) (o : ∀ g, 6 ≤ g → g < 11 → ∀ b e, v (2 * g) = some b → v (2 * g + 1) = some e → b ≤ e) : SheetM T L m' := by
  obtain ⟨h1, h2, h3, hv⟩ := hm
  refine ⟨h1, h2, h3, (hv 4).trans ((same 4 (by decide)).trans p.v4), (hv 5).trans ((same 5 (by decide)).trans p.v5), (hv 8).trans ((same 8 (by decide)).trans (p.no 8 (by omega))),
    (hv 10).trans ((same 10 (by decide)).trans p.v10), (hv 11).trans h11, ?_⟩
  intro g hg b e hb he
  rw [hv] at hb he
  by_cases h6 : 6 ≤ g
  · exact o g h6 hg b e hb he
  · have hc : g = 0 ∨ g = 1 ∨ g = 2 ∨ g = 3 ∨ g = 4 ∨ g = 5 := by omega
    rcases hc with rfl | rfl | rfl | rfl | rfl | rfl
    · rw [same _ (by decide), p.o0.1] at hb; rw [same _ (by decide), p.o0.2] at he; cases hb; cases he; omega
    · rw [same _ (by decide), p.o1.1] at hb; rw [same _ (by decide), p.o1.2] at he; cases hb; cases he; omega
    · rw [same _ (by decide), p.v4] at hb; rw [same _ (by decide), p.v5] at he; cases hb; cases he; omega
    · rw [same _ (by decide)] at hb; rw [same _ (by decide)] at he
      rcases p.o3 with ⟨x, _⟩ | ⟨x, y, hx, hy, hxy⟩
      · rw [x] at hb; cases hb
      · rw [hx] at hb; rw [hy] at he; cases hb; cases he; exact hxy
    · rw [same _ (by decide), p.no 8 (by omega)] at hb; cases hb
    · rw [same _ (by decide), p.v10] at hb; rw [h11] at he; cases hb; cases he; omega
theorem sheet_one {T : Array Nat} {nm rest : List Nat} {d1 d2 : Bool} {a c : Nat} (h0 : Reads T 0 (39 :: (dbl nm ++ 39 :: 33 :: rest))) (hl : nm.length ≤ 1000)
    (h : Half T (3 + (dbl nm).length) d1 a d2 c) (he : 3 + (dbl nm).length + d1.toNat + a + d2.toNat + c = T.size) (hT : T.size < 4294967295) :
    Ends 30000 (Sre.forMatch codeS T 11 0 T.size false false) (SheetM T (dbl nm).length) := by
  obtain ⟨m1, f1, v1, t1, s1, q1, l1, p1⟩ := sheet_pre h0 hl
  obtain ⟨m2, f2, t2, s2, q2, l2⟩ := seg_H s1 (by decide) (by omega) q1 (by decide) hS1 h hT
  rw [he] at s2
  obtain ⟨m3, f3, t3, s3, q3, l3⟩ := seg_T0 s2 (by decide) (by omega) q2 (by decide) tS (fun q => by omega)
  have s4 := i_mark (i := 11) s3 rfl rfl (by decide) (by decide)
  obtain ⟨m5, t5, s5⟩ := i_look s4 (by omega)
  obtain ⟨n, hn, x, y⟩ := To.ends (t1.trans (t2.trans (t3.trans ((To.step s3.out (To.refl _)).trans t5)))) (finish s5 q3 rfl (by decide))
  refine ⟨n, by omega, x, sheet_of y p1 rfl (by omega) (fun j hj => ?_) ?_⟩
  · unfold upd
    rw [if_neg (by omega), vG_other (by omega) (by omega), vG_other (by omega) (by omega)]
  · intro g h6 hg b e hb hee
    have hc : g = 6 ∨ g = 7 ∨ g = 8 ∨ g = 9 ∨ g = 10 := by omega
    unfold upd at hb hee
    rw [if_neg (by omega)] at hb hee
    rcases hc with rfl | rfl | rfl | rfl | rfl
    · rw [vG_other (by decide) (by decide)] at hb hee
      exact vG_pair (p1.no 12 (by omega)) b e hb hee
    · exact vG_pair (by rw [vG_other (by decide) (by decide)]; exact p1.no 14 (by omega)) b e hb hee
    all_goals (rw [vG_other (by decide) (by decide), vG_other (by decide) (by decide), p1.no _ (by omega)] at hb; cases hb)
theorem sheet_two {T : Array Nat} {nm rest : List Nat} {d1 d2 e1 e2 : Bool} {a c a' c' : Nat} (h0 : Reads T 0 (39 :: (dbl nm ++ 39 :: 33 :: rest))) (hl : nm.length ≤ 1000)
    (h : Half T (3 + (dbl nm).length) d1 a d2 c) (hcol : T.getD (3 + (dbl nm).length + d1.toNat + a + d2.toNat + c) 0 = 58) (hlt : 3 + (dbl nm).length + d1.toNat + a + d2.toNat + c < T.size)
    (h' : Half T (3 + (dbl nm).length + d1.toNat + a + d2.toNat + c + 1) e1 a' e2 c') (he : 3 + (dbl nm).length + d1.toNat + a + d2.toNat + c + 1 + e1.toNat + a' + e2.toNat + c' = T.size) (hT : T.size < 4294967295) :
    Ends 30000 (Sre.forMatch codeS T 11 0 T.size false false) (SheetM T (dbl nm).length) := by
  obtain ⟨m1, f1, v1, t1, s1, q1, l1, p1⟩ := sheet_pre h0 hl
  obtain ⟨m2, f2, t2, s2, q2, l2⟩ := seg_H s1 (by decide) (by omega) q1 (by decide) hS1 h hT
  obtain ⟨m3, f3, t3, s3, q3, l3⟩ := seg_T s2 (by decide) (by omega) q2 (by decide) tS hlt hcol h' hT
  rw [he] at s3
  have s4 := i_mark (i := 11) s3 rfl rfl (by decide) (by decide)
  obtain ⟨m5, t5, s5⟩ := i_look s4 (by omega)
  obtain ⟨n, hn, x, y⟩ := To.ends (t1.trans (t2.trans (t3.trans ((To.step s3.out (To.refl _)).trans t5)))) (finish s5 q3 rfl (by decide))
  refine ⟨n, by omega, x, sheet_of y p1 rfl (by omega) (fun j hj => ?_) ?_⟩
  · unfold upd
    rw [if_neg (by omega), if_neg (by omega), vG_other (by omega) (by omega), vG_other (by omega) (by omega)]
    rw [if_neg (by omega), vG_other (by omega) (by omega), vG_other (by omega) (by omega)]
  · intro g h6 hg b e hb hee
    have hc : g = 6 ∨ g = 7 ∨ g = 8 ∨ g = 9 ∨ g = 10 := by omega
    have u1 : ∀ (w : Nat → Option Nat) (i p j : Nat), j ≠ i → upd w i p j = w j := fun w i p j q => if_neg q
    rw [u1 _ _ _ _ (by omega)] at hb hee
    rcases hc with rfl | rfl | rfl | rfl | rfl
    · rw [u1 _ _ _ _ (by decide), vG_other (by decide) (by decide), vG_other (by decide) (by decide), u1 _ _ _ _ (by decide), vG_other (by decide) (by decide)] at hb hee
      exact vG_pair (p1.no 12 (by omega)) b e hb hee
    · rw [u1 _ _ _ _ (by decide), vG_other (by decide) (by decide), vG_other (by decide) (by decide), u1 _ _ _ _ (by decide)] at hb hee
      exact vG_pair (by rw [vG_other (by decide) (by decide)]; exact p1.no 14 (by omega)) b e hb hee
    · rw [u1 _ _ _ _ (by decide), vG_other (by decide) (by decide), vG_other (by decide) (by decide)] at hb
      have hb' : some (3 + (dbl nm).length + d1.toNat + a + d2.toNat + c) = some b := hb
      have he' : some T.size = some e := hee
      cases hb'; cases he'; omega
    · rw [u1 _ _ _ _ (by decide), vG_other (by decide) (by decide)] at hb hee
      exact vG_pair (by rw [u1 _ _ _ _ (by decide), vG_other (by decide) (by decide), vG_other (by decide) (by decide)]; exact p1.no 18 (by omega)) b e hb hee
    · rw [u1 _ _ _ _ (by decide)] at hb hee
      exact vG_pair (by rw [vG_other (by decide) (by decide), u1 _ _ _ _ (by decide), vG_other (by decide) (by decide), vG_other (by decide) (by decide)]; exact p1.no 20 (by omega)) b e hb hee
end Mine.Rx
end
section
open PySem PySem.W PySem.Calls PySem.Spec PyProof.Rows
set_option Elab.async false
set_option maxRecDepth 100000
namespace Mine
set_option linter.unusedVariables false
noncomputable abbrev LO : List Str := looseW Mine.hd.view_39 [Str.ofString "ABSOLUTE_RE", Str.ofString "SHEETRANGE_RE", Str.ofString "decimal_to_alpha_cell", Str.ofString "alpha_to_decimal_cell"]
abbrev Ext (h h' : Heap) : Prop := ∀ b o, h.get? b = some o → h'.get? b = some o
theorem Ext.refl (h : Heap) : Ext h h := fun _ _ e => e
theorem Ext.trans {h h' h'' : Heap} (a : Ext h h') (b : Ext h' h'') : Ext h h'' := fun c o e => b c o (a c o e)
section
variable {prog : Program} {w : World} {A : Around} {E : Value → Shared → Prop} {s : Shared} {Q : Value → Shared → Prop}
theorem enterK {K : Frag} {p : Program} {loose : List Str} {mg mb : Str → Option Value} {name qual : Str} {params : Arguments} {body : List Stmt} {scope : Scope} {dV kV doc pm cdv ct oc : Value} {an od : Option Addr} {osl : Array (Option Value)} {f : Addr} {args : Args} {binds : List (Str × Value)}
    (X : K.In s.heap) (T : TopRead p loose mg mb s.heap)
    (ho : K.lookup f = some ⟨oc, od, .func (fnOf name qual params body scope dV kV doc pm an cdv ct), osl⟩) (hcd : codeIn K cdv qual = true) (hroom : A.depth < recursionLimit)
    (hbind : BindsTo s (fnOf name qual params body scope dV kV doc pm an cdv ct) args binds) (hloc : ∀ y ∈ binds, scope.names.lookup y.1 = some .local)
    (h : ∀ L' h₁, Fr s.heap L' h₁ (fun y => binds.reverse.lookup y) → News s.heap L' h₁ [] →
      wpAny (model prog w) (A.deeper (envOf qual scope L' f cdv)) (execs body (envOf qual scope L' f cdv))
        (fun fl s' => Q (match fl with | .ret v => v | _ => .none) s')
        (fun e s' => wpAny (model prog w) (A.deeper (envOf qual scope L' f cdv)) (leaving (envOf qual scope L' f cdv) e) (fun _ s'' => E e s'') (fun e' s'' => E e' s'') s')
        { s with heap := h₁, toks := s.toks + binds.length })
    (hco : scope.isCoroutine = false) (hgen : scope.isGenerator = false) (hk : scope.kind = .function)
    (hcell : ∀ x ∈ scope.names, x.2 ≠ .cell) : wpAny (model prog w) A (call (.ref f) args.pos args.kw) Q E s := by
  refine wpAny_call ?_
  refine codeAny_call_def (fd := fnOf name qual params body scope dV kV doc pm an cdv ct) (body := body) (binds := binds) hroom (X _ _ ho) rfl T.nolimit (codeRec_of X hcd) rfl hbind hcell hloc (fun h₁ hns hk₁ => ?_) hco hgen hk
  exact wpAny_mono (h _ h₁ ⟨hns, hk₁, Nat.le_refl _⟩ News.nil) (fun fl s' hl => hl) fun _ _ y => y
theorem hide_fr {h h₁ : Heap} {a L : Addr} {m : Str → Option Value} (F : Fr h L h₁ m) : Fr (h.hide a) L h₁ m :=
  ⟨F.ns, fun b o e => F.keep b o (Heap.of_hide e), Nat.le_trans (Nat.le_of_eq (Heap.hide_size _ _)) F.above⟩
theorem hide_in {K : Frag} {h : Heap} {a : Addr} (X : K.In h) (hn : ∀ b o, K.lookup b = some o → b ≠ a) : K.In (h.hide a) := fun b o e => by
  rw [Heap.hide_ne _ (hn b o e)]; exact X b o e
theorem hide_ns {h : Heap} {a b : Addr} {m : Str → Option Value} (x : h.Ns b m) (hn : b ≠ a) : (h.hide a).Ns b m := by
  obtain ⟨o, es, ep, ho, r⟩ := x
  exact ⟨o, es, ep, (Heap.hide_ne _ hn).trans ho, r⟩
theorem low_ne {a b : Nat} (h : b < 133) (ha : 133 ≤ a) : b ≠ a := Nat.ne_of_lt (Nat.lt_of_lt_of_le h ha)
theorem hide_read {p : Program} {loose : List Str} {mg mb : Str → Option Value} {h : Heap} {a : Addr} (T : TopRead p loose mg mb h) (ha : 133 ≤ a) : TopRead p loose mg mb (h.hide a) := by
  obtain ⟨mc, h1, h2⟩ := T.nolimit
  exact ⟨hide_ns T.g (low_ne (by decide) ha), hide_ns T.b (low_ne (by decide) ha), ⟨mc, hide_ns h1 (low_ne (by decide) ha), h2⟩, T.builtins, T.free⟩
end
theorem klow {P : Params} : ∀ b o, (Mine.hd.heap_39 P).lookup b = some o → b < 133 := by
  intro b o h
  have hm : b ∈ (Mine.hd.heap_39 P).map (·.1) := by
    obtain ⟨i, hi⟩ := List.lookup_eq_some_iff.mp h
    rcases hi with ⟨l2, e, _⟩
    rw [e]; simp
  have : ∀ x ∈ (Mine.hd.heap_39 P).map (·.1), x < 133 := by
    have e : (Mine.hd.heap_39 P).map (·.1) = (Mine.hd.heap_39 P).map (·.1) := rfl
    unfold Mine.hd.heap_39
    simp
  exact this b hm
end Mine
end
section
open PySem PySem.W PySem.Calls PySem.Spec PyProof.Rows PySem.Builtin.Re
set_option Elab.async false
set_option maxRecDepth 100000
set_option maxHeartbeats 4000000
set_option linter.unusedVariables false
namespace Mine
theorem fillK : PySem.Challenge.rw_ez0208_01 = PySem.Challenge.rw_ez0208_01 → (∀ P, Mine.hd.heap_39 P = Mine.hd.heap_39 P) := by k_fill; intros; rfl
structure IsPat (h : Heap) (p : Addr) (code : Array Nat) (groups : Nat) (idx : Addr) : Prop where
  obj : ∃ o fs, h.get? p = some o ∧ o.cls = .type "re.Pattern" ∧ o.dict = none ∧ o.data = .fields fs ∧ reRawNat (fs.getD 2 .none) = groups ∧ fs.getD 3 .none = .ref idx ∧ reRawNat (fs.getD 6 .none) = 0 ∧
    ∃ ct oc items n, fs.getD 5 .none = .ref ct ∧ h.get? ct = some oc ∧ oc.data = .seq items n ∧ ((items.map reRawOf).map (·.toNat)) = code
theorem isPat_of {K : Frag} {h : Heap} {p idx ct : Addr} {code : Array Nat} {groups n : Nat} {o oc : Obj} {fs items : Array Value} (X : K.In h) (e : K.lookup p = some o) (e2 : K.lookup ct = some oc)
    (a : o.cls = .type "re.Pattern") (a2 : o.dict = none) (b : o.data = .fields fs) (c : reRawNat (fs.getD 2 .none) = groups) (d : fs.getD 3 .none = .ref idx) (f : fs.getD 5 .none = .ref ct) (g : reRawNat (fs.getD 6 .none) = 0)
    (i : oc.data = .seq items n) (j : items.toList.map (fun v => (reRawOf v).toNat) = code.toList) : IsPat h p code groups idx :=
  ⟨⟨o, fs, X _ _ e, a, a2, b, c, d, g, ct, oc, items, n, f, X _ _ e2, i, by apply Array.ext'; rw [← j]; simp [Array.toList_map, Function.comp_def]⟩⟩
theorem patA {P : Params} {h : Heap} (X : (Mine.hd.heap_39 P).In h) : IsPat h 36 Rx.codeA 5 33 := by
  refine' isPat_of (ct := 35) X ?e ?e2 ?a ?a2 ?b ?c ?d ?f ?g ?i ?j
  case e => k_is
  case e2 => k_is
  case a => rfl
  case a2 => rfl
  case b => rfl
  case c => rfl
  case d => rfl
  case f => rfl
  case g => rfl
  case i => rfl
  case j => kernel_rfl
theorem patS {P : Params} {h : Heap} (X : (Mine.hd.heap_39 P).In h) : IsPat h 41 Rx.codeS 11 38 := by
  refine' isPat_of (ct := 40) X ?e ?e2 ?a ?a2 ?b ?c ?d ?f ?g ?i ?j
  case e => k_is
  case e2 => k_is
  case a => rfl
  case a2 => rfl
  case b => rfl
  case c => rfl
  case d => rfl
  case f => rfl
  case g => rfl
  case i => rfl
  case j => kernel_rfl
theorem IsPat.keep {h h' : Heap} {p idx : Addr} {code : Array Nat} {groups : Nat} (x : IsPat h p code groups idx) (e : Ext h h') : IsPat h' p code groups idx := by
  obtain ⟨o, fs, ho, hc, hdn, hd, hg, hi, hw, ct, oc, items, n, h5, hoc, hdc, hcode⟩ := x.obj
  exact ⟨⟨o, fs, e _ _ ho, hc, hdn, hd, hg, hi, hw, ct, oc, items, n, h5, e _ _ hoc, hdc, hcode⟩⟩
section
variable {prog : Program} {w : World} {A : Around} {E : Value → Shared → Prop} {s : Shared}
theorem wpAny_reDrive {Q : Sre.M → Shared → Prop} : ∀ (turns n : Nat) (m : Sre.M), n ≤ 4 * turns → 0 < turns → (m.runFor n).outcome.isSome = true → Q (m.runFor n) s → wpAny (model prog w) A (reDrive turns m) Q E s
  | 0, _, _, _, h, _, _ => absurd h (Nat.lt_irrefl _)
  | turns + 1, n, m, hn, _, ho, hq => by
    unfold reDrive
    dsimp only
    show wpAny _ _ (if (m.runFor 4).outcome.isSome = true then pure (m.runFor 4) else _) _ _ _
    by_cases h4 : (m.runFor 4).outcome.isSome = true
    · rw [if_pos h4]
      have e : m.runFor n = m.runFor 4 := by
        by_cases q : n ≤ 4
        · have := Rx.runFor_add n (4 - n) m
          rw [Nat.add_sub_cancel' q, Rx.runFor_stop ho] at this
          exact this.symm
        · have := Rx.runFor_add 4 (n - 4) m
          rw [Nat.add_sub_cancel' (by omega), Rx.runFor_stop h4] at this
          exact this
      exact wpAny_pure (e ▸ hq)
    · rw [if_neg h4]
      have q : ¬ n ≤ 4 := fun q => by
        have := Rx.runFor_add n (4 - n) m
        rw [Nat.add_sub_cancel' q, Rx.runFor_stop ho] at this
        rw [this] at h4; exact h4 ho
      have e := Rx.runFor_add 4 (n - 4) m
      rw [Nat.add_sub_cancel' (by omega)] at e
      rw [e] at ho hq
      refine wpAny_bind (wpAny_rule ?_)
      exact wpAny_reDrive turns (n - 4) (m.runFor 4) (by omega) (by omega) ho hq
theorem wpAny_reRun {k : Nat} {m : Sre.M} {P : Sre.M → Prop} {Q : Option Sre.M → Shared → Prop} (he : Rx.Ends k m P) (hk : k ≤ 1000000)
    (h : ∀ m', P m' → (m'.outcome = some .matched ∧ Q (some m') s) ∨ (m'.outcome = some .failed ∧ Q none s)) : wpAny (model prog w) A (reRunToEnd m) Q E s := by
  obtain ⟨n, hn, ho, hp⟩ := he
  unfold reRunToEnd
  refine wpAny_bind (wpAny_reDrive (2 ^ 64) n m (by omega) (by decide) ho ?_)
  generalize m.runFor n = m' at *
  have loop : ∀ (l : List Nat) (Q' : PUnit → Shared → Prop), Q' PUnit.unit s → wpAny (model prog w) A (forIn l PUnit.unit fun i __s => if m'.seen.has i = true then (do rule (Sre.names.getD i ""); pure (ForInStep.yield PUnit.unit) : Sem (ForInStep PUnit)) else pure (ForInStep.yield PUnit.unit)) Q' E s := by
    intro l
    induction l with
    | nil => intro Q' hq; rw [List.forIn_nil]; exact wpAny_pure hq
    | cons i l ih =>
      intro Q' hq
      rw [List.forIn_cons]
      refine wpAny_bind ?_
      split
      · exact wpAny_bind (wpAny_rule (wpAny_pure (ih _ hq)))
      · exact wpAny_pure (ih _ hq)
  refine wpAny_bind ?_
  refine loop _ _ ?_
  rcases h m' hp with ⟨e, hq⟩ | ⟨e, hq⟩
  · rw [e]; exact wpAny_pure hq
  · rw [e]; exact wpAny_pure hq
end
end Mine
end
section
open PySem PySem.W PySem.Calls PySem.Spec PyProof.Rows PySem.Builtin PySem.Builtin.Re
set_option Elab.async false
set_option maxRecDepth 100000
set_option maxHeartbeats 4000000
set_option linter.unusedVariables false
namespace Mine
theorem slot_match : Slot "re.Pattern" "match" "re.Pattern.match" :=
  Slot.of (owner := "re.Pattern") (n := "match") (by rw [typeLookup_type, builtinLookup_eq_fast]; kernel_rfl) (by decide +kernel) (by decide +kernel) (by decide +kernel) (by first | exact .inl (by decide +kernel) | exact .inr (by decide +kernel)) (by rw [isSubtype_type]; kernel_rfl)
theorem type_match : typeOf (.builtin "re.Pattern.match") = pure (.type "method_descriptor") := by show builtinType _ = _; rw [builtinType_eq_fast]; kernel_rfl
theorem entry_match : entryFor table "re.Pattern.match" = some Builtin.«re.Pattern.match» := entryFor_of_tree (by kernel_rfl)
theorem args_match (a b : Value) : argsOk "re.Pattern.match" ⟨[a, b], []⟩ := by unfold argsOk; kernel_rfl
def grp (v : Nat → Option Nat) (x : Str) (g : Nat) : Option Str := match v (2 * g), v (2 * g + 1) with | some b, some e => some ⟨x.cps.extract b e⟩ | _, _ => none
def spanVals (v : Nat → Option Nat) (n : Nat) : List Value := (List.range n).flatMap fun g => (Rx.spans v g).map rawInt
abbrev tupObj (vs : List Value) : Obj := { cls := .type "tuple", data := .seq vs.toArray }
abbrev matchObj (x : Str) (t : Tok) (p : Addr) (lim : Nat) (li : Int) (T : Addr) : Obj := { cls := .type "re.Match", data := .fields #[.str x t, .ref p, rawInt 0, rawInt lim, rawInt li, .ref T] }
theorem spanVals_len (v : Nat → Option Nat) (n : Nat) : (spanVals v n).length ≤ 2 * n := by
  unfold spanVals
  have key : ∀ l : List Nat, (l.flatMap fun g => (Rx.spans v g).map rawInt).length ≤ 2 * l.length := by
    intro l
    induction l with
    | nil => exact Nat.le_refl _
    | cons g l ih =>
      rw [List.flatMap_cons, List.length_append, List.length_map, List.length_cons]
      have : (Rx.spans v g).length = 2 := by unfold Rx.spans; cases v (2 * g) <;> cases v (2 * g + 1) <;> rfl
      omega
  have := key (List.range n)
  rwa [List.length_range] at this
def Ord (v : Nat → Option Nat) : Prop := ∀ g b e, g < 11 → v (2 * g) = some b → v (2 * g + 1) = some e → b ≤ e
section
variable {prog : Program} {w : World} {A : Around} {E : Value → Shared → Prop} {s : Shared}
theorem vis_pair {m : Sre.M} {v : Nat → Option Nat} (hv : ∀ j, Rx.vis m j = v j) (g : Nat) :
    (if ((2 * g + 1 : Nat) : Int) ≤ m.lastmark then (m.marks.getD (2 * g) none, m.marks.getD (2 * g + 1) none) else (none, none)) = (v (2 * g), v (2 * g + 1)) ∨
    ((if ((2 * g + 1 : Nat) : Int) ≤ m.lastmark then (m.marks.getD (2 * g) none, m.marks.getD (2 * g + 1) none) else (none, none)) = (none, none) ∧ v (2 * g + 1) = none ∧ ¬ ((2 * g + 1 : Nat) : Int) ≤ m.lastmark) := by
  by_cases q : ((2 * g + 1 : Nat) : Int) ≤ m.lastmark
  · left
    rw [if_pos q, ← hv (2 * g), ← hv (2 * g + 1)]
    unfold Rx.vis
    rw [if_pos q, if_pos (by omega)]
  · right
    rw [if_neg q, ← hv (2 * g + 1)]
    unfold Rx.vis
    rw [if_neg q]
    exact ⟨rfl, rfl, q⟩
theorem wpAny_reNewMatch {m : Sre.M} {v : Nat → Option Nat} {p : Addr} {x : Str} {t : Tok} {n stop lim : Nat} {Q : Value → Shared → Prop} (hm : Rx.Matched m v stop) (ho : Ord v) (hn : n ≤ 11)
    (h : ∀ li, Q (.ref (s.heap.objs.size + 1)) { s with heap := (s.heap.push (tupObj (rawInt 0 :: rawInt stop :: spanVals v n))).push (matchObj x t p lim li s.heap.objs.size) }) :
    wpAny (model prog w) A (reNewMatch (.ref p) (.str x t) n 0 lim m) Q E s := by
  obtain ⟨h1, h2, h3, hv⟩ := hm
  unfold reNewMatch
  have es : ((List.range n).flatMap fun g => match if ((2 * g + 1 : Nat) : Int) ≤ m.lastmark then (m.marks.getD (2 * g) none, m.marks.getD (2 * g + 1) none) else (none, none) with
    | (some b, some e) => [rawInt b, rawInt e]
    | _ => [rawInt (-1), rawInt (-1)]) = spanVals v n := by
    unfold spanVals
    congr 1
    funext g
    unfold Rx.spans
    rcases vis_pair hv g with e | ⟨e, e2, _⟩
    · rw [e]; cases v (2 * g) <;> cases v (2 * g + 1) <;> rfl
    · rw [e, e2]; cases v (2 * g) <;> rfl
  have ea : ((List.range n).any (fun g => match m.marks.getD (2 * g) none, m.marks.getD (2 * g + 1) none with | some b, some e => ((2 * g + 1 : Nat) : Int) ≤ m.lastmark && e < b | _, _ => false)) = false := by
    rw [List.any_eq_false]
    intro g hgm
    rcases vis_pair hv g with e | ⟨e, e2, q⟩
    · by_cases q : ((2 * g + 1 : Nat) : Int) ≤ m.lastmark
      · rw [if_pos q] at e
        have ea := (Prod.mk.inj e).1
        have eb := (Prod.mk.inj e).2
        rw [ea, eb]
        cases qa : v (2 * g) with
        | none => simp
        | some b =>
          cases qb : v (2 * g + 1) with
          | none => simp
          | some c =>
            have := ho g b c (by have := List.mem_range.mp hgm; omega) qa qb
            have q' : ¬ c < b := by omega
            simp [q']
      · cases m.marks.getD (2 * g) none <;> cases m.marks.getD (2 * g + 1) none <;> simp [q]
        intro hh; exact absurd hh (by simpa using q)
    · cases m.marks.getD (2 * g) none <;> cases m.marks.getD (2 * g + 1) none <;> simp
      intro hh; exact absurd hh (by simpa using q)
  dsimp only
  generalize hs : List.flatMap _ (List.range n) = ss
  have es' : ss = spanVals v n := hs.symm.trans es
  generalize hb : List.any (List.range n) _ = bb
  have ea' : bb = false := hb.symm.trans ea
  rw [es', ea']
  simp only [Bool.false_eq_true, if_false, newFields]
  rw [h2, h3]
  refine wpAny_bind (wpAny_newTuple ?_ ?_)
  · refine wpAny_newObj_type ?_ (by size_fits)
    have hq := h m.lastindex
    rw [← Heap.size_push s.heap (tupObj (rawInt 0 :: rawInt stop :: spanVals v n))] at hq
    exact hq
  · have := spanVals_len v n
    simp only [List.length_cons]
    exact Nat.le_trans (show _ ≤ 3000 by omega) (by decide)
theorem wpAny_match {p idx : Addr} {code : Array Nat} {groups k : Nat} {x : Str} {t : Tok} {P : Sre.M → Prop} {Q : Value → Shared → Prop} (hp : IsPat s.heap p code groups idx)
    (he : Rx.Ends k (Sre.forMatch code x.cps groups 0 x.cps.size false false) P) (hk : k ≤ 1000000) (hx : x.cps.size ≤ 100000)
    (h : ∀ m', P m' → (m'.outcome = some .matched ∧ wpAny (model prog w) A.in1 (reNewMatch (.ref p) (.str x t) groups 0 x.cps.size m') Q E s) ∨ (m'.outcome = some .failed ∧ Q .none s)) :
    wpAny (model prog w) A (call (.builtin "re.Pattern.match") [.ref p, .str x t]) Q E s := by
  obtain ⟨o, fs, ho, hc, hdn, hd, hg, hi, hw, ct, oc, items, n, h5, hoc, hdc, hcode⟩ := hp.obj
  refine wpAny_call_entry slot_match (T := "re.Pattern") ⟨o, ho, hc⟩ entry_match ?_ (args_match _ _)
  unfold Builtin.«re.Pattern.match»
  refine wpAny_bind ?_
  unfold reTarget
  dsimp only
  refine wpAny_bind (wpAny_of_eq (a := [some (.str x t), none, none]) rfl ?_)
  dsimp only
  refine wpAny_bind (wpAny_pure ?_)
  refine wpAny_bind (wpAny_pure ?_)
  refine wpAny_bind (wpAny_fieldsOf ho hd ?_)
  refine wpAny_bind (wpAny_of_eq (a := (x.cps, 0)) rfl ?_)
  dsimp only
  rw [hw]
  refine wpAny_bind (wpAny_of_eq (a := ()) rfl ?_)
  refine wpAny_bind ?_
  unfold reRawItems
  rw [h5]
  refine wpAny_bind (wpAny_seqItems hoc hdc (wpAny_pure ?_))
  refine wpAny_pure ?_
  dsimp only [Option.getD_some]
  rw [hcode, hg]
  have e1 : min (0 : Int).toNat x.cps.size = 0 := by simp
  have e2 : min ((2 : Int) ^ 63 - 1).toNat x.cps.size = x.cps.size := Nat.min_eq_right (Nat.le_trans hx (by decide))
  rw [e1, e2]
  unfold reAnswer
  refine wpAny_bind (wpAny_reRun he hk fun m' hm => ?_)
  rcases h m' hm with ⟨a, b⟩ | ⟨a, b⟩
  · refine .inl ⟨a, wpAny_bind (wpAny_mono b (fun r s' hq => ?_) fun _ _ e => e)⟩
    exact wpAny_pure ⟨_, rfl, hq⟩
  · exact .inr ⟨a, wpAny_pure ⟨_, rfl, b⟩⟩
end
end Mine
end
section
open PySem PySem.W PySem.Calls PySem.Spec PyProof.Rows PySem.Builtin PySem.Builtin.Re
set_option Elab.async false
set_option maxRecDepth 100000
set_option maxHeartbeats 4000000
set_option linter.unusedVariables false
namespace Mine
structure Fit (code : Array Nat) (n k : Nat) (x : Str) (v : Nat → Option Nat) (stop : Nat) : Prop where
  small : x.cps.size ≤ 1000
  ends : Rx.Ends k (Sre.forMatch code x.cps n 0 x.cps.size false false) (fun m' => Rx.Matched m' v stop)
  hk : k ≤ 1000000
  ord : Ord v
inductive Vals : List (Option Str) → List Value → Prop
  | nil : Vals [] []
  | none {os vs} : Vals os vs → Vals (none :: os) (.none :: vs)
  | some {os vs y t} : Vals os vs → Vals (some y :: os) (.str y t :: vs)
section
variable {prog : Program} {w : World} {A : Around} {E : Value → Shared → Prop} {s : Shared} {h₀ : Heap} {L : Addr} {m : Str → Option Value} {news : List (Addr × Obj)}
theorem match_F {p idx : Addr} {code : Array Nat} {n k stop : Nat} {x : Str} {t : Tok} {v : Nat → Option Nat} {Q : Value → Shared → Prop} (F : Fr h₀ L s.heap m) (N : News h₀ L s.heap news) (hp : IsPat s.heap p code n idx) (f : Fit code n k x v stop) (hn : n ≤ 11)
    (h : ∀ T M li h', Fr h₀ L h' m → News h₀ L h' ((M, matchObj x t p x.cps.size li T) :: (T, tupObj (rawInt 0 :: rawInt stop :: spanVals v n)) :: news) → (∀ q ∈ news, q.1 < T) → @LT.lt Nat _ T M → @LT.lt Nat _ L T → Q (.ref M) { s with heap := h' }) :
    wpAny (model prog w) A (call (.builtin "re.Pattern.match") [.ref p, .str x t]) Q E s := by
  refine wpAny_match hp f.ends f.hk (Nat.le_trans f.small (by decide)) fun m' hm => .inl ⟨hm.1, ?_⟩
  refine wpAny_reNewMatch hm f.ord hn fun li => ?_
  have F1 := F.push (tupObj (rawInt 0 :: rawInt stop :: spanVals v n))
  have N1 := News.push F N (tupObj (rawInt 0 :: rawInt stop :: spanVals v n))
  have F2 := F1.push (matchObj x t p x.cps.size li s.heap.objs.size)
  have N2 := News.push F1 N1 (matchObj x t p x.cps.size li s.heap.objs.size)
  have e := Heap.size_push s.heap (tupObj (rawInt 0 :: rawInt stop :: spanVals v n))
  rw [e] at N2
  exact h _ _ li _ F2 N2 (fun q hq => Heap.lt_size (N q hq).1) (Nat.lt_succ_self _) F.ns.lt
theorem spanVals_get (v : Nat → Option Nat) : ∀ n g, g < n → ((spanVals v n).map reRawOf)[2 * g]? = some ((Rx.spans v g).getD 0 (-1)) ∧ ((spanVals v n).map reRawOf)[2 * g + 1]? = some ((Rx.spans v g).getD 1 (-1)) := by
  intro n g hg
  have key : ∀ (l : List Nat) (i : Nat) (hi : i < l.length), ((l.flatMap fun g => (Rx.spans v g).map rawInt).map reRawOf)[2 * i]? = some ((Rx.spans v l[i]).getD 0 (-1)) ∧ ((l.flatMap fun g => (Rx.spans v g).map rawInt).map reRawOf)[2 * i + 1]? = some ((Rx.spans v l[i]).getD 1 (-1)) := by
    intro l
    induction l with
    | nil => intro i hi; exact absurd hi (Nat.not_lt_zero _)
    | cons a l ih =>
      intro i hi
      have ha : ∃ b c : Int, Rx.spans v a = [b, c] := by unfold Rx.spans; cases v (2 * a) <;> cases v (2 * a + 1) <;> exact ⟨_, _, rfl⟩
      obtain ⟨b, c, ha⟩ := ha
      have e : (((a :: l).flatMap fun g => (Rx.spans v g).map rawInt).map reRawOf) = b :: c :: ((l.flatMap fun g => (Rx.spans v g).map rawInt).map reRawOf) := by
        rw [List.flatMap_cons, ha]; rfl
      rw [e]
      cases i with
      | zero => exact ⟨by simp [ha], by simp [ha]⟩
      | succ i =>
        have := ih i (by simpa using hi)
        have e1 : 2 * (i + 1) = 2 * i + 1 + 1 := by omega
        rw [e1]
        simpa using this
  have := key (List.range n) g (by simpa using hg)
  simpa [spanVals] using this
def found (x : Str) (t : Tok) (p : Addr) (lim : Nat) (li : Int) (T : Addr) (stop : Nat) (v : Nat → Option Nat) (n : Nat) : ReFound :=
  { fields := #[.str x t, .ref p, rawInt 0, rawInt lim, rawInt li, .ref T], spans := (rawInt 0 :: rawInt stop :: spanVals v n).toArray.map reRawOf }
theorem wpAny_reFound {M T p : Addr} {x : Str} {t : Tok} {lim : Nat} {li : Int} {stop n : Nat} {v : Nat → Option Nat} {Q : ReFound → Shared → Prop} (hM : s.heap.get? M = some (matchObj x t p lim li T)) (hT : s.heap.get? T = some (tupObj (rawInt 0 :: rawInt stop :: spanVals v n)))
    (h : Q (found x t p lim li T stop v n) s) : wpAny (model prog w) A (reFound (.ref M)) Q E s := by
  unfold reFound
  refine wpAny_bind (wpAny_fieldsOf hM rfl ?_)
  refine wpAny_bind ?_
  unfold reRawItems
  refine wpAny_bind (wpAny_seqItems hT rfl (wpAny_pure (wpAny_pure ?_)))
  exact h
theorem found_span {x : Str} {t : Tok} {p : Addr} {lim : Nat} {li : Int} {T : Addr} {stop : Nat} {v : Nat → Option Nat} {n g : Nat} (hg : g < n) :
    (found x t p lim li T stop v n).spans.getD (2 * (g + 1)) (-1) = (Rx.spans v g).getD 0 (-1) ∧ (found x t p lim li T stop v n).spans.getD (2 * (g + 1) + 1) (-1) = (Rx.spans v g).getD 1 (-1) := by
  obtain ⟨a, b⟩ := spanVals_get v n g hg
  unfold found
  have e : ∀ j, ((rawInt 0 :: rawInt stop :: spanVals v n).toArray.map reRawOf).getD (j + 2) (-1) = (((spanVals v n).map reRawOf)[j]?).getD (-1) := by
    intro j
    rw [Array.getD_eq_getD_getElem?]
    congr 1
    simp
  have e1 : 2 * (g + 1) = 2 * g + 2 := by omega
  have e2 : 2 * (g + 1) + 1 = 2 * g + 1 + 2 := by omega
  refine ⟨?_, ?_⟩
  · rw [e1]; exact (e (2 * g)).trans (by rw [a]; rfl)
  · rw [e2]; exact (e (2 * g + 1)).trans (by rw [b]; rfl)
def strOr (d : Value) : Option Str → Tok → Value
  | none, _ => d
  | some y, t => .str y t
theorem wpAny_group {x : Str} {t : Tok} {p : Addr} {lim : Nat} {li : Int} {T : Addr} {stop : Nat} {v : Nat → Option Nat} {n g : Nat} {d : Value} {Q : Value → Shared → Prop} (hx : x.cps.size ≤ 1000) (hg : g < n)
    (h : ∀ k, Q (strOr d (grp v x g) s.toks) { s with toks := k }) : wpAny (model prog w) A (reGroupText (found x t p lim li T stop v n) (g + 1) d) Q E s := by
  obtain ⟨a, b⟩ := found_span (x := x) (t := t) (p := p) (lim := lim) (li := li) (T := T) (stop := stop) (v := v) (n := n) hg
  unfold reGroupText
  rw [a, b]
  unfold grp at h
  unfold Rx.spans
  cases hb : v (2 * g) with
  | none => rw [hb] at h; exact wpAny_pure (h s.toks)
  | some b =>
    cases he : v (2 * g + 1) with
    | none => rw [hb, he] at h; exact wpAny_pure (h s.toks)
    | some e =>
      rw [hb, he] at h
      dsimp only [List.getD_cons_zero, List.getD_cons_succ]
      rw [if_neg (by simp)]
      refine wpAny_bind (wpAny_of_eq (a := (x.cps, 0)) rfl ?_)
      dsimp only
      unfold reSlice
      rw [if_pos (show ((0 : Nat) == 0) = true from rfl)]
      show wpAny _ _ (mkStr ⟨x.cps.extract b e⟩) Q E s
      refine wpAny_mkStr (h _) ?_
      show (x.cps.extract b e).size ≤ sizeLine
      rw [Array.size_extract]
      exact Nat.le_trans (show _ ≤ 1000 by omega) (by decide)
end
end Mine
end
section
open PySem PySem.Builtin.Re
set_option Elab.async false
set_option maxRecDepth 100000
set_option linter.unusedVariables false
namespace Mine
open Rx
structure Seg where
  d1 : Bool
  ls : List Nat
  d2 : Bool
  ns : List Nat
def dl (b : Bool) : List Nat := if b = true then [36] else []
theorem dl_len (b : Bool) : (dl b).length = b.toNat := by cases b <;> rfl
def Seg.cps (g : Seg) : List Nat := dl g.d1 ++ (g.ls ++ (dl g.d2 ++ g.ns))
theorem Seg.len (g : Seg) : g.cps.length = g.d1.toNat + g.ls.length + g.d2.toNat + g.ns.length := by
  unfold Seg.cps
  simp only [List.length_append, dl_len]
  omega
structure Seg.Ok (g : Seg) : Prop where
  let_ : ∀ c ∈ g.ls, isLet c = true
  a3 : g.ls.length ≤ 3
  dig : ∀ c ∈ g.ns, Unicode.isDecimal c = true ∧ c ≠ 36 ∧ isLet c = false
  dd : g.ls = [] → g.d2 = false
theorem Reads.app {T : Array Nat} {p : Nat} {a b : List Nat} (h : Reads T p (a ++ b)) : Reads T p a ∧ Reads T (p + a.length) b := by
  obtain ⟨h1, h2⟩ := h
  rw [List.length_append] at h1 h2
  refine ⟨⟨by omega, fun j hj => ?_⟩, ⟨by omega, fun j hj => ?_⟩⟩
  · rw [h2 j (by omega), List.getD_eq_getElem?_getD, List.getD_eq_getElem?_getD, List.getElem?_append_left hj]
  · have := h2 (a.length + j) (by omega)
    rw [Nat.add_assoc, this, List.getD_eq_getElem?_getD, List.getD_eq_getElem?_getD, List.getElem?_append_right (by omega)]
    congr 2
    omega
theorem Reads.mem {T : Array Nat} {p : Nat} {l : List Nat} (h : Reads T p l) {j : Nat} (hj : j < l.length) : T.getD (p + j) 0 ∈ l := by
  rw [h.2 j hj, List.getD_eq_getElem?_getD, List.getElem?_eq_getElem hj]
  exact List.getElem_mem hj
theorem Reads.hd {T : Array Nat} {p c : Nat} {l r : List Nat} (h : Reads T p l) (e : l = c :: r) : T.getD p 0 = c := by
  subst e; exact (Reads.head h).2
/-- what stands behind a half cell -/
def After (T : Array Nat) (q : Nat) (rest : List Nat) : Prop := Reads T q rest ∧ (rest = [] → q = T.size) ∧ ∀ c r, rest = c :: r → c = 58
theorem half_of {T : Array Nat} {pos : Nat} {g : Seg} {rest : List Nat} (h : Reads T pos (g.cps ++ rest)) (h0 : rest = [] → pos + g.cps.length = T.size) (h58 : ∀ c r, rest = c :: r → c = 58) (ok : g.Ok) :
    Half T pos g.d1 g.ls.length g.d2 g.ns.length := by
  have hl := g.len
  obtain ⟨hc, hr⟩ := Reads.app h
  unfold Seg.cps at hc
  obtain ⟨c1, hc⟩ := Reads.app hc
  obtain ⟨c2, hc⟩ := Reads.app hc
  obtain ⟨c3, c4⟩ := Reads.app hc
  rw [dl_len] at c2 c3 c4
  rw [dl_len] at c4
  rw [hl] at hr h0
  have hsz : pos + (g.d1.toNat + g.ls.length + g.d2.toNat + g.ns.length) ≤ T.size := by have := hr.1; omega
  -- the sign behind the half
  have tail : ∀ q, q = pos + (g.d1.toNat + g.ls.length + g.d2.toNat + g.ns.length) → q < T.size → T.getD q 0 = 58 := by
    rintro q rfl hq
    cases hrest : rest with
    | nil => have := h0 hrest; omega
    | cons c r => rw [Reads.hd hr hrest]; exact h58 c r hrest
  -- the sign behind the second dollar
  have num : ∀ q, q = pos + (g.d1.toNat + g.ls.length + g.d2.toNat) → q < T.size → T.getD q 0 ≠ 36 ∧ isLet (T.getD q 0) = false := by
    rintro q hq hlt
    cases hn : g.ns with
    | nil =>
      rw [tail q (by rw [hn]; simpa using hq) hlt]
      exact ⟨by decide, by decide⟩
    | cons c r =>
      have hm := Reads.mem c4 (j := 0) (by rw [hn]; simp)
      have e : pos + g.d1.toNat + g.ls.length + g.d2.toNat + 0 = q := by omega
      rw [e] at hm
      exact (ok.dig _ hm).2
  have mid : ∀ q, q = pos + (g.d1.toNat + g.ls.length) → q < T.size → isLet (T.getD q 0) = false ∧ (g.d2 = false → T.getD q 0 ≠ 36) ∧ (g.d2 = true → T.getD q 0 = 36) := by
    rintro q hq hlt
    cases hd : g.d2 with
    | true =>
      rw [hd] at c3
      have e := (Reads.head (show Reads T _ (36 :: []) from c3)).2
      have e2 : pos + g.d1.toNat + g.ls.length = q := by omega
      rw [e2] at e
      rw [e]
      exact ⟨by decide, (fun z => by cases z), fun _ => rfl⟩
    | false =>
      obtain ⟨x, y⟩ := num q (by rw [hd]; simpa using hq) hlt
      exact ⟨y, fun _ => x, fun z => by cases z⟩
  refine ⟨?_, fun j hj => ok.let_ _ (Reads.mem c2 hj), ok.a3, by omega, ?_, ?_, fun j hj => (ok.dig _ (Reads.mem c4 hj)).1, by omega, ?_⟩
  · unfold dollar
    cases hd : g.d1 with
    | true =>
      rw [hd] at c1
      exact Reads.head (show Reads T pos (36 :: []) from c1)
    | false =>
      refine ⟨by omega, fun hlt => ?_⟩
      cases hls : g.ls with
      | nil =>
        exact (mid pos (by rw [hd, hls]; simp) hlt).2.1 (ok.dd hls)
      | cons c r =>
        have hm := Reads.mem c2 (j := 0) (by rw [hls]; simp)
        rw [hd] at hm
        have hl2 := ok.let_ _ hm
        intro z
        have e : pos + Bool.toNat false + 0 = pos := rfl
        rw [e] at hl2
        rw [z] at hl2
        exact absurd hl2 (by decide)
  · by_cases h3 : g.ls.length = 3
    · exact .inl h3
    · right
      by_cases hs : pos + g.d1.toNat + g.ls.length = T.size
      · exact .inl hs
      · exact .inr (mid _ (by omega) (by omega)).1
  · unfold dollar
    cases hd : g.d2 with
    | true =>
      rw [hd] at c3
      exact Reads.head (show Reads T _ (36 :: []) from c3)
    | false =>
      refine ⟨by omega, fun hlt => (mid _ (by omega) hlt).2.1 hd⟩
  · by_cases hs : pos + g.d1.toNat + g.ls.length + g.d2.toNat + g.ns.length = T.size
    · exact .inl hs
    · right
      rw [tail _ (by omega) (by omega)]
      decide +kernel
end Mine
end
section
open PySem PySem.Builtin.Re
set_option Elab.async false
set_option maxRecDepth 100000
set_option linter.unusedVariables false
namespace Mine
open Rx
theorem extract_of {T : Array Nat} {p q : Nat} {l : List Nat} (h : Reads T p l) (hq : q = p + l.length) : T.extract p q = l.toArray := by
  subst hq
  apply Array.ext
  · have := h.1
    have e : (T.extract p (p + l.length)).size = min (p + l.length) T.size - p := Array.size_extract
    have e2 : l.toArray.size = l.length := List.size_toArray
    rw [e, e2]
    omega
  · intro i h1 h2
    have hi : i < l.length := by simpa using h2
    have e := h.2 i hi
    have hT : p + i < T.size := by have := h.1; omega
    rw [Array.getElem_extract]
    rw [Array.getD_eq_getD_getElem?, Array.getElem?_eq_getElem hT, List.getD_eq_getElem?_getD, List.getElem?_eq_getElem hi] at e
    simpa using e
theorem reads_self (l : List Nat) : Reads l.toArray 0 l := ⟨by simp, fun j hj => by simp [Array.getD_eq_getD_getElem?, List.getD_eq_getElem?_getD]⟩
def oS (l : List Nat) : Option Str := if l = [] then none else some ⟨l.toArray⟩
theorem vG_none {v : Nat → Option Nat} {k p : Nat} : vG v k p 0 = v := by unfold vG; rw [if_pos rfl]
theorem vG_at {v : Nat → Option Nat} {k p a : Nat} (ha : a ≠ 0) : vG v k p a k = some p ∧ vG v k p a (k + 1) = some (p + a) := by
  unfold vG upd
  rw [if_neg ha]
  refine ⟨by rw [if_neg (by omega), if_pos rfl], by rw [if_pos rfl]⟩
theorem grp_vG {v : Nat → Option Nat} {x : Str} {g p : Nat} {l : List Nat} (h0 : v (2 * g) = none) (h : Reads x.cps p l) : grp (vG v (2 * g) p l.length) x g = oS l := by
  unfold grp oS
  by_cases hl : l = []
  · subst hl
    rw [List.length_nil, vG_none, h0, if_pos rfl]
  · have hn : l.length ≠ 0 := fun e => hl (List.length_eq_zero_iff.mp e)
    obtain ⟨a, b⟩ := vG_at (v := v) (k := 2 * g) (p := p) hn
    rw [a, b, if_neg hl]
    dsimp only
    rw [extract_of h rfl]
theorem grp_same {v v' : Nat → Option Nat} {x : Str} {g : Nat} (h1 : v' (2 * g) = v (2 * g)) (h2 : v' (2 * g + 1) = v (2 * g + 1)) : grp v' x g = grp v x g := by
  unfold grp
  rw [h1, h2]
theorem ord_vG {v : Nat → Option Nat} {g p a : Nat} (h : Ord v) (h0 : v (2 * g) = none) : Ord (vG v (2 * g) p a) := by
  intro g' b e hg' hb he
  by_cases q : g' = g
  · subst q
    exact vG_pair h0 b e hb he
  · rw [vG_other (by omega) (by omega)] at hb he
    exact h g' b e hg' hb he
theorem ord_none : Ord (fun _ => none) := fun _ _ _ _ h => by cases h
structure Parts (T : Array Nat) (p : Nat) (g : Seg) : Prop where
  l : Reads T (p + g.d1.toNat) g.ls
  n : Reads T (p + g.d1.toNat + g.ls.length + g.d2.toNat) g.ns
theorem parts_of {T : Array Nat} {p : Nat} {g : Seg} {rest : List Nat} (h : Reads T p (g.cps ++ rest)) : Parts T p g := by
  obtain ⟨hc, _⟩ := Reads.app h
  unfold Seg.cps at hc
  obtain ⟨c1, hc⟩ := Reads.app hc
  obtain ⟨c2, hc⟩ := Reads.app hc
  obtain ⟨c3, c4⟩ := Reads.app hc
  rw [dl_len] at c2 c3 c4
  rw [dl_len] at c4
  exact ⟨c2, c4⟩
theorem fit_one {g : Seg} (ok : g.Ok) (hn : g.ns.length ≤ 20) {x : Str} (hx : x.cps = g.cps.toArray) :
    ∃ v, Fit codeA 5 200 x v x.cps.size ∧ (List.range 5).map (grp v x) = [oS g.ls, oS g.ns, none, none, none] := by
  have hl := g.len
  have hsz : x.cps.size = g.cps.length := by rw [hx]; simp
  have hb1 : g.d1.toNat ≤ 1 := by cases g.d1 <;> decide
  have hb2 : g.d2.toNat ≤ 1 := by cases g.d2 <;> decide
  have h3 := ok.a3
  have hR : Reads x.cps 0 (g.cps ++ []) := by rw [List.append_nil, hx]; exact reads_self _
  have H := half_of hR (fun _ => by rw [hsz]; omega) (fun c r e => by cases e) ok
  have P := parts_of hR
  refine ⟨_, ⟨by omega, match_one H (by omega) (by omega), by decide, ?_⟩, ?_⟩
  · exact ord_vG (g := 1) (ord_vG (g := 0) ord_none rfl) (by rw [vG_other (by decide) (by decide)])
  · have e0 : grp (vG (vG (fun _ => none) 0 (0 + g.d1.toNat) g.ls.length) 2 (0 + g.d1.toNat + g.ls.length + g.d2.toNat) g.ns.length) x 0 = oS g.ls :=
      (grp_same (vG_other (by decide) (by decide)) (vG_other (by decide) (by decide))).trans (grp_vG (g := 0) rfl P.l)
    have e1 : grp (vG (vG (fun _ => none) 0 (0 + g.d1.toNat) g.ls.length) 2 (0 + g.d1.toNat + g.ls.length + g.d2.toNat) g.ns.length) x 1 = oS g.ns :=
      grp_vG (g := 1) (by rw [vG_other (by decide) (by decide)]) P.n
    have e2 : ∀ k, 2 ≤ k → grp (vG (vG (fun _ => none) 0 (0 + g.d1.toNat) g.ls.length) 2 (0 + g.d1.toNat + g.ls.length + g.d2.toNat) g.ns.length) x k = none := by
      intro k hk
      unfold grp
      rw [vG_other (by omega) (by omega), vG_other (by omega) (by omega)]
    show [_, _, _, _, _] = _
    rw [e0, e1, e2 2 (by decide), e2 3 (by decide), e2 4 (by decide)]
theorem fit_two {g g' : Seg} (ok : g.Ok) (ok' : g'.Ok) (hn : g.ns.length ≤ 20) (hn' : g'.ns.length ≤ 20) {x : Str} (hx : x.cps = (g.cps ++ 58 :: g'.cps).toArray) :
    ∃ v z, Fit codeA 5 200 x v x.cps.size ∧ (List.range 5).map (grp v x) = [oS g.ls, oS g.ns, some z, oS g'.ls, oS g'.ns] ∧ z.cps.size ≠ 0 ∧ z.cps.size ≤ 60 := by
  have hl := g.len
  have hl' := g'.len
  have hsz : x.cps.size = g.cps.length + 1 + g'.cps.length := by rw [hx]; simp; omega
  have hb1 : g.d1.toNat ≤ 1 := by cases g.d1 <;> decide
  have hb2 : g.d2.toNat ≤ 1 := by cases g.d2 <;> decide
  have hb3 : g'.d1.toNat ≤ 1 := by cases g'.d1 <;> decide
  have hb4 : g'.d2.toNat ≤ 1 := by cases g'.d2 <;> decide
  have h3 := ok.a3
  have h3' := ok'.a3
  have hR : Reads x.cps 0 (g.cps ++ (58 :: g'.cps)) := by rw [hx]; exact reads_self _
  have hR2 := (Reads.app hR).2
  have hcol := Reads.head hR2
  have hR' : Reads x.cps (0 + g.cps.length + 1) (g'.cps ++ []) := by rw [List.append_nil]; exact Reads.tail hR2
  have H := half_of hR (fun e => by cases e) (fun c r e => by cases e; rfl) ok
  have H' := half_of hR' (fun _ => by rw [hsz]; omega) (fun c r e => by cases e) ok'
  have P := parts_of hR
  have P' := parts_of hR'
  have eq : 0 + g.cps.length = 0 + g.d1.toNat + g.ls.length + g.d2.toNat + g.ns.length := by omega
  rw [eq] at hcol H' P'
  refine ⟨_, ⟨x.cps.extract (0 + g.d1.toNat + g.ls.length + g.d2.toNat + g.ns.length) x.cps.size⟩, ⟨by omega, match_two H hcol.2 hcol.1 H' (by omega) (by omega), by decide, ?_⟩, ?_, ?_, ?_⟩
  · intro k b e hk11 hb he
    by_cases q : k = 2
    · subst q
      have e1 : (upd (vG (vG (upd (vG (vG (fun _ => none) 0 (0 + g.d1.toNat) g.ls.length) 2 (0 + g.d1.toNat + g.ls.length + g.d2.toNat) g.ns.length) 4 (0 + g.d1.toNat + g.ls.length + g.d2.toNat + g.ns.length)) 6 (0 + g.d1.toNat + g.ls.length + g.d2.toNat + g.ns.length + 1 + g'.d1.toNat) g'.ls.length) 8 (0 + g.d1.toNat + g.ls.length + g.d2.toNat + g.ns.length + 1 + g'.d1.toNat + g'.ls.length + g'.d2.toNat) g'.ns.length) 5 x.cps.size) (2 * 2) = some (0 + g.d1.toNat + g.ls.length + g.d2.toNat + g.ns.length) := by
        unfold upd
        rw [if_neg (by decide), vG_other (by decide) (by decide), vG_other (by decide) (by decide), if_pos rfl]
      rw [e1] at hb
      unfold upd at he
      rw [if_pos rfl] at he
      cases hb; cases he
      omega
    · have o1 := ord_vG (g := 1) (p := 0 + g.d1.toNat + g.ls.length + g.d2.toNat) (a := g.ns.length) (ord_vG (g := 0) (p := 0 + g.d1.toNat) (a := g.ls.length) ord_none rfl) (by rw [vG_other (by decide) (by decide)])
      by_cases q4 : k = 4
      · subst q4
        unfold upd at hb he
        rw [if_neg (by decide)] at hb he
        refine vG_pair ?_ b e hb he
        rw [vG_other (by decide) (by decide), if_neg (by decide), vG_other (by decide) (by decide), vG_other (by decide) (by decide)]
      · by_cases q3 : k = 3
        · subst q3
          unfold upd at hb he
          rw [if_neg (by decide), vG_other (by decide) (by decide)] at hb he
          refine vG_pair ?_ b e hb he
          rw [if_neg (by decide), vG_other (by decide) (by decide), vG_other (by decide) (by decide)]
        · unfold upd at hb he
          rw [if_neg (by omega), vG_other (by omega) (by omega), vG_other (by omega) (by omega), if_neg (by omega)] at hb he
          exact o1 k b e hk11 hb he
  · have w0 : ∀ k, k ≠ 5 → k ≠ 8 → k ≠ 9 → k ≠ 6 → k ≠ 7 → k ≠ 4 → (upd (vG (vG (upd (vG (vG (fun _ => none) 0 (0 + g.d1.toNat) g.ls.length) 2 (0 + g.d1.toNat + g.ls.length + g.d2.toNat) g.ns.length) 4 (0 + g.d1.toNat + g.ls.length + g.d2.toNat + g.ns.length)) 6 (0 + g.d1.toNat + g.ls.length + g.d2.toNat + g.ns.length + 1 + g'.d1.toNat) g'.ls.length) 8 (0 + g.d1.toNat + g.ls.length + g.d2.toNat + g.ns.length + 1 + g'.d1.toNat + g'.ls.length + g'.d2.toNat) g'.ns.length) 5 x.cps.size) k = vG (vG (fun _ => none) 0 (0 + g.d1.toNat) g.ls.length) 2 (0 + g.d1.toNat + g.ls.length + g.d2.toNat) g.ns.length k := by
      intro k a1 a2 a3 a4 a5 a6
      unfold upd
      rw [if_neg a1, vG_other a2 a3, vG_other a4 a5, if_neg a6]
    have e0 := (grp_same (x := x) (g := 0) (w0 0 (by decide) (by decide) (by decide) (by decide) (by decide) (by decide)) (w0 1 (by decide) (by decide) (by decide) (by decide) (by decide) (by decide))).trans ((grp_same (vG_other (by decide) (by decide)) (vG_other (by decide) (by decide))).trans (grp_vG (g := 0) rfl P.l))
    have e1 := (grp_same (x := x) (g := 1) (w0 2 (by decide) (by decide) (by decide) (by decide) (by decide) (by decide)) (w0 3 (by decide) (by decide) (by decide) (by decide) (by decide) (by decide))).trans (grp_vG (g := 1) (by rw [vG_other (by decide) (by decide)]) P.n)
    show [_, _, _, _, _] = _
    rw [e0, e1]
    congr 3
    · unfold grp upd
      rw [if_neg (by decide), if_pos rfl, vG_other (by decide) (by decide), vG_other (by decide) (by decide), if_pos rfl]
    · congr 1
      · refine (grp_same (x := x) (g := 3) (v := vG (upd (vG (vG (fun _ => none) 0 (0 + g.d1.toNat) g.ls.length) 2 (0 + g.d1.toNat + g.ls.length + g.d2.toNat) g.ns.length) 4 (0 + g.d1.toNat + g.ls.length + g.d2.toNat + g.ns.length)) 6 (0 + g.d1.toNat + g.ls.length + g.d2.toNat + g.ns.length + 1 + g'.d1.toNat) g'.ls.length) ?_ ?_).trans (grp_vG (g := 3) ?_ P'.l)
        · unfold upd; rw [if_neg (by decide), vG_other (by decide) (by decide)]
        · unfold upd; rw [if_neg (by decide), vG_other (by decide) (by decide)]
        · unfold upd; rw [if_neg (by decide), vG_other (by decide) (by decide), vG_other (by decide) (by decide)]
      · congr 1
        refine (grp_same (x := x) (g := 4) (v := vG (vG (upd (vG (vG (fun _ => none) 0 (0 + g.d1.toNat) g.ls.length) 2 (0 + g.d1.toNat + g.ls.length + g.d2.toNat) g.ns.length) 4 (0 + g.d1.toNat + g.ls.length + g.d2.toNat + g.ns.length)) 6 (0 + g.d1.toNat + g.ls.length + g.d2.toNat + g.ns.length + 1 + g'.d1.toNat) g'.ls.length) 8 (0 + g.d1.toNat + g.ls.length + g.d2.toNat + g.ns.length + 1 + g'.d1.toNat + g'.ls.length + g'.d2.toNat) g'.ns.length) ?_ ?_).trans (grp_vG (g := 4) ?_ P'.n)
        · unfold upd; rw [if_neg (by decide)]
        · unfold upd; rw [if_neg (by decide)]
        · unfold upd; rw [vG_other (by decide) (by decide), if_neg (by decide), vG_other (by decide) (by decide), vG_other (by decide) (by decide)]
  · have e : (x.cps.extract (0 + g.d1.toNat + g.ls.length + g.d2.toNat + g.ns.length) x.cps.size).size = min x.cps.size x.cps.size - (0 + g.d1.toNat + g.ls.length + g.d2.toNat + g.ns.length) := Array.size_extract
    show (x.cps.extract _ _).size ≠ 0
    rw [e]; omega
  · have e : (x.cps.extract (0 + g.d1.toNat + g.ls.length + g.d2.toNat + g.ns.length) x.cps.size).size = min x.cps.size x.cps.size - (0 + g.d1.toNat + g.ls.length + g.d2.toNat + g.ns.length) := Array.size_extract
    show (x.cps.extract _ _).size ≤ 60
    rw [e]; omega
/-- the sheet's pattern on a quoted name, an exclamation mark and cells -/
theorem fit_sheet {x : Str} {L : Nat} (he : Ends 30000 (Sre.forMatch codeS x.cps 11 0 x.cps.size false false) (SheetM x.cps L)) (hs : x.cps.size ≤ 1000) :
    ∃ v, Fit codeS 11 30000 x v x.cps.size ∧ grp v x 2 = some ⟨x.cps.extract 1 (1 + L)⟩ ∧ grp v x 4 = none ∧ grp v x 5 = some ⟨x.cps.extract (3 + L) x.cps.size⟩ := by
  obtain ⟨n, hn, ho, hp⟩ := he
  refine ⟨vis ((Sre.forMatch codeS x.cps 11 0 x.cps.size false false).runFor n), ⟨hs, ⟨n, hn, ho, hp.out, hp.start, hp.handed, fun _ => rfl⟩, by decide, fun g b e hg hb hee => hp.ord g hg b e hb hee⟩, ?_, ?_, ?_⟩
  · unfold grp
    rw [show 2 * 2 = 4 from rfl, show 4 + 1 = 5 from rfl, hp.v4, hp.v5]
  · unfold grp
    rw [show 2 * 4 = 8 from rfl, hp.v8]
  · unfold grp
    rw [show 2 * 5 = 10 from rfl, show 10 + 1 = 11 from rfl, hp.v10, hp.v11]
theorem sheet_fit_one {g : Seg} {nm : List Nat} (ok : g.Ok) (hn : g.ns.length ≤ 20) (hnm : nm.length ≤ 10) {x : Str} (hd : (dbl nm).length ≤ 20) (hx : x.cps = (39 :: (dbl nm ++ 39 :: 33 :: g.cps)).toArray) :
    ∃ v, Fit codeS 11 30000 x v x.cps.size ∧ grp v x 2 = some ⟨(dbl nm).toArray⟩ ∧ grp v x 4 = none ∧ grp v x 5 = some ⟨g.cps.toArray⟩ := by
  have hl := g.len
  have hb1 : g.d1.toNat ≤ 1 := by cases g.d1 <;> decide
  have hb2 : g.d2.toNat ≤ 1 := by cases g.d2 <;> decide
  have h3 := ok.a3
  have hsz : x.cps.size = 3 + (dbl nm).length + g.cps.length := by rw [hx]; simp; omega
  have hR : Reads x.cps 0 (39 :: (dbl nm ++ 39 :: 33 :: g.cps)) := by rw [hx]; exact reads_self _
  have r1 := Reads.tail hR
  obtain ⟨r2, r3⟩ := Reads.app r1
  have r4 := Reads.tail (Reads.tail r3)
  have ep : 0 + 1 + (dbl nm).length + 1 + 1 = 3 + (dbl nm).length := by omega
  rw [ep] at r4
  have H := half_of (g := g) (rest := []) (by rw [List.append_nil]; exact r4) (fun _ => by rw [hsz]) (fun c r e => by cases e) ok
  obtain ⟨v, f, a, b, c⟩ := fit_sheet (sheet_one hR (by omega) H (by omega) (by omega)) (by omega)
  refine ⟨v, f, ?_, b, ?_⟩
  · rw [a, extract_of r2 rfl]
  · rw [c, extract_of r4 (by omega)]
theorem sheet_fit_two {g g' : Seg} {nm : List Nat} (ok : g.Ok) (ok' : g'.Ok) (hn : g.ns.length ≤ 20) (hn' : g'.ns.length ≤ 20) (hnm : nm.length ≤ 10) {x : Str} (hd : (dbl nm).length ≤ 20) (hx : x.cps = (39 :: (dbl nm ++ 39 :: 33 :: (g.cps ++ 58 :: g'.cps))).toArray) :
    ∃ v, Fit codeS 11 30000 x v x.cps.size ∧ grp v x 2 = some ⟨(dbl nm).toArray⟩ ∧ grp v x 4 = none ∧ grp v x 5 = some ⟨(g.cps ++ 58 :: g'.cps).toArray⟩ := by
  have hl := g.len
  have hl' := g'.len
  have hb1 : g.d1.toNat ≤ 1 := by cases g.d1 <;> decide
  have hb2 : g.d2.toNat ≤ 1 := by cases g.d2 <;> decide
  have hb3 : g'.d1.toNat ≤ 1 := by cases g'.d1 <;> decide
  have hb4 : g'.d2.toNat ≤ 1 := by cases g'.d2 <;> decide
  have h3 := ok.a3
  have h3' := ok'.a3
  have hsz : x.cps.size = 3 + (dbl nm).length + g.cps.length + 1 + g'.cps.length := by rw [hx]; simp; omega
  have hR : Reads x.cps 0 (39 :: (dbl nm ++ 39 :: 33 :: (g.cps ++ 58 :: g'.cps))) := by rw [hx]; exact reads_self _
  have r1 := Reads.tail hR
  obtain ⟨r2, r3⟩ := Reads.app r1
  have r4 := Reads.tail (Reads.tail r3)
  have ep : 0 + 1 + (dbl nm).length + 1 + 1 = 3 + (dbl nm).length := by omega
  rw [ep] at r4
  have hR2 := (Reads.app r4).2
  have hcol := Reads.head hR2
  have hR' : Reads x.cps (3 + (dbl nm).length + g.cps.length + 1) (g'.cps ++ []) := by rw [List.append_nil]; exact Reads.tail hR2
  have H := half_of r4 (fun e => by cases e) (fun c r e => by cases e; rfl) ok
  have H' := half_of hR' (fun _ => by rw [hsz]) (fun c r e => by cases e) ok'
  have eq : 3 + (dbl nm).length + g.cps.length = 3 + (dbl nm).length + g.d1.toNat + g.ls.length + g.d2.toNat + g.ns.length := by omega
  rw [eq] at hcol H'
  obtain ⟨v, f, a, b, c⟩ := fit_sheet (sheet_two hR (by omega) H hcol.2 hcol.1 H' (by omega) (by omega)) (by omega)
  refine ⟨v, f, ?_, b, ?_⟩
  · rw [a, extract_of r2 rfl]
  · rw [c, extract_of r4 (by simp; omega)]
end Mine
end
section
local macro_rules | `(tactic| walk_at "mine pad 0") => `(tactic| skip)
local macro_rules | `(tactic| walk_at "mine pad 1") => `(tactic| skip)
local macro_rules | `(tactic| walk_at "mine pad 2") => `(tactic| skip)
local macro_rules | `(tactic| walk_at "mine pad 3") => `(tactic| skip)
local macro_rules | `(tactic| walk_at "mine pad 4") => `(tactic| skip)
local macro_rules | `(tactic| walk_at "mine pad 5") => `(tactic| skip)
local macro_rules | `(tactic| walk_at "mine pad 6") => `(tactic| skip)
local macro_rules | `(tactic| walk_at "mine pad 7") => `(tactic| skip)
local macro_rules | `(tactic| walk_at "mine pad 8") => `(tactic| skip)
local macro_rules | `(tactic| walk_at "mine pad 9") => `(tactic| skip)
local macro_rules | `(tactic| walk_at "mine pad 10") => `(tactic| skip)
local macro_rules | `(tactic| walk_at "mine pad 11") => `(tactic| skip)
local macro_rules | `(tactic| walk_at "mine pad 12") => `(tactic| skip)
local macro_rules | `(tactic| walk_at "mine pad 13") => `(tactic| skip)
open PySem PySem.W PySem.Calls PySem.Spec PyProof.Rows
set_option Elab.async false
set_option maxRecDepth 100000
set_option maxHeartbeats 4000000
namespace Mine
abbrev stObj (sl : Addr) (i x : Int) (t1 t2 : Tok) (n : Nat) : Obj := listOf #[.ref sl, .int i t1, .int x t2] n
theorem next_c : ∀ {w : World} {mg mb : Str → Option Value} {A : Around} {s : Shared} {Q E : Value → Shared → Prop} {st sl : Addr} {i x many : Int} {t1 t2 tm : Tok} {n : Nat} {vs : List Value} {ns : List Int}
    (X : (Mine.hd.heap_39 w.params).In s.heap) (T : TopRead Mine.hd.view_39 (looseW Mine.hd.view_39 [Str.ofString "ABSOLUTE_RE", Str.ofString "SHEETRANGE_RE", Str.ofString "decimal_to_alpha_cell", Str.ofString "alpha_to_decimal_cell"]) mg mb s.heap)
    (hd : A.depth + 8 < recursionLimit) (hu : A.units + 60 < cLine)
    (hst : 133 ≤ st) (ho : s.heap.get? st = some (stObj sl i x t1 t2 n)) (hsl : s.heap.IsList sl vs.toArray) (hin : IntsAre vs ns) (hne : sl ≠ st) (hlen : ns.length ≤ 63) (hi0 : 0 ≤ i) (hi1 : i ≤ 63) (hx0 : 0 ≤ x) (hx1 : x < 2147483647)
    (hm0 : 0 < many) (hm1 : many ≤ 12)
    (ret : ∀ h' tk' t' r i' x' t1' t2' n', (∀ b o, b ≠ st → s.heap.get? b = some o → h'.get? b = some o) → h'.get? st = some (stObj sl i' x' t1' t2' n') → 0 ≤ i' → i' ≤ 63 → 0 ≤ x' → x' < 2147483647 → 0 ≤ r → r < many → Q (.int r t') { s with heap := h', toks := tk' }),
    wpAny (model PySem.Challenge.rw_ez0208_01.row.prog w) A (call (.ref 106) [.ref st, .int many tm] []) Q E s := by
  k_fill
  intro w mg mb A s Q E st sl i x many t1 t2 tm n vs ns X T hd hu hst ho hsl hin hne hlen hi0 hi1 hx0 hx1 hm0 hm1 ret
  k_dflt (refine' enterK (args := ⟨[.ref st, .int many tm], []⟩) X T ?k1 ?k2 ?k3 ?k4 ?k5 ?_ ?c1 ?c2 ?c3 ?c4; (case k1 => k_is); (case k2 => k_is); (case k3 => omega); (case k4 => exact BindsTo.of_eq rfl); (case k5 => exact locs rfl); (case c1 => rfl); (case c2 => rfl); (case c3 => rfl); (case c4 => decide); k_whole)
  intro L' h' F₀ _
  have hL : st ≠ L' := Nat.ne_of_lt (Nat.lt_of_lt_of_le (Heap.lt_size ho) F₀.above)
  have F' := hide_fr (a := st) F₀
  have N' : News (s.heap.hide st) L' h' [(st, stObj sl i x t1 t2 n)] := fun p hp => by
    obtain rfl := List.mem_singleton.mp hp
    exact ⟨F₀.keep _ _ ho, hL, Heap.hide_self _ _⟩
  have X' := hide_in (a := st) X (fun b o e => low_ne (klow b o e) hst)
  have T' := hide_read (a := st) T hst
  have hsl' : (s.heap.hide st).IsList sl vs.toArray := let ⟨o, e, r⟩ := hsl; ⟨o, (Heap.hide_ne _ hne).trans e, r⟩
  clear X T hsl F₀ ho
  (try dsimp only)
  (try k_fold)
  k_steps
  all_goals (
    (with_reducible rename Fr _ _ _ _ => F9)
    (with_reducible rename News _ _ _ _ => N9)
    (try dsimp only [qk])
    (try dsimp only)
    refine ret _ _ _ _ _ _ _ _ _ (fun b o hb e => F9.keep b o ((Heap.hide_ne _ hb).trans e)) (N9.get (.head _)) ?_ ?_ ?_ ?_ ?_ ?_)
  all_goals first
    | omega
    | (rw [Int.fmod_eq_emod_of_nonneg _ (by omega)]; omega)
    | exact Int.emod_nonneg _ (by omega)
    | (rw [Int.fmod_eq_emod_of_nonneg _ (by omega)]; first | exact Int.emod_nonneg _ (by omega) | exact Int.emod_lt_of_pos _ (by omega))
    | (trace_state; fail "left")
end Mine
end
section
open PySem PySem.W PySem.Calls PySem.Spec PyProof.Rows
set_option Elab.async false
set_option maxRecDepth 100000
set_option maxHeartbeats 4000000
set_option linter.unusedVariables false
namespace Mine
theorem letters_1 : ∀ {w : World} {mg mb : Str → Option Value} {A : Around} {s : Shared} {Q E : Value → Shared → Prop} {tm : Tok}
    (X : (Mine.hd.heap_39 w.params).In s.heap) (T : TopRead Mine.hd.view_39 LO mg mb s.heap)
    (hd : A.depth + 8 < recursionLimit) (hu : A.units + 60 < cLine)
    (ret : ∀ h' tk' t', Ext s.heap h' → Q (.str (Str.ofString "A") t') { s with heap := h', toks := tk' }),
    wpAny (model PySem.Challenge.rw_ez0208_01.row.prog w) A (call (.ref 113) [.int 1 tm] []) Q E s := by
  k_fill
  intro w mg mb A s Q E tm X T hd hu ret
  k_dflt (refine' enterK (args := ⟨[.int 1 tm], []⟩) X T ?k1 ?k2 ?k3 ?k4 ?k5 ?_ ?c1 ?c2 ?c3 ?c4; (case k1 => k_is); (case k2 => k_is); (case k3 => omega); (case k4 => exact BindsTo.of_eq rfl); (case k5 => exact locs rfl); (case c1 => rfl); (case c2 => rfl); (case c3 => rfl); (case c4 => decide); k_whole)
  intro L' h' F' N'
  (try dsimp only)
  (try k_fold)
  k_steps
  all_goals (
    (with_reducible rename Fr _ _ _ _ => F9)
    (try dsimp only [qk])
    (try dsimp only)
    refine ret _ _ _ (fun b o e => F9.keep b o e))
theorem letters_2 : ∀ {w : World} {mg mb : Str → Option Value} {A : Around} {s : Shared} {Q E : Value → Shared → Prop} {tm : Tok}
    (X : (Mine.hd.heap_39 w.params).In s.heap) (T : TopRead Mine.hd.view_39 LO mg mb s.heap)
    (hd : A.depth + 8 < recursionLimit) (hu : A.units + 60 < cLine)
    (ret : ∀ h' tk' t', Ext s.heap h' → Q (.str (Str.ofString "B") t') { s with heap := h', toks := tk' }),
    wpAny (model PySem.Challenge.rw_ez0208_01.row.prog w) A (call (.ref 113) [.int 2 tm] []) Q E s := by
  k_fill
  intro w mg mb A s Q E tm X T hd hu ret
  k_dflt (refine' enterK (args := ⟨[.int 2 tm], []⟩) X T ?k1 ?k2 ?k3 ?k4 ?k5 ?_ ?c1 ?c2 ?c3 ?c4; (case k1 => k_is); (case k2 => k_is); (case k3 => omega); (case k4 => exact BindsTo.of_eq rfl); (case k5 => exact locs rfl); (case c1 => rfl); (case c2 => rfl); (case c3 => rfl); (case c4 => decide); k_whole)
  intro L' h' F' N'
  (try dsimp only)
  (try k_fold)
  k_steps
  all_goals (
    (with_reducible rename Fr _ _ _ _ => F9)
    (try dsimp only [qk])
    (try dsimp only)
    refine ret _ _ _ (fun b o e => F9.keep b o e))
theorem letters_3 : ∀ {w : World} {mg mb : Str → Option Value} {A : Around} {s : Shared} {Q E : Value → Shared → Prop} {tm : Tok}
    (X : (Mine.hd.heap_39 w.params).In s.heap) (T : TopRead Mine.hd.view_39 LO mg mb s.heap)
    (hd : A.depth + 8 < recursionLimit) (hu : A.units + 60 < cLine)
    (ret : ∀ h' tk' t', Ext s.heap h' → Q (.str (Str.ofString "C") t') { s with heap := h', toks := tk' }),
    wpAny (model PySem.Challenge.rw_ez0208_01.row.prog w) A (call (.ref 113) [.int 3 tm] []) Q E s := by
  k_fill
  intro w mg mb A s Q E tm X T hd hu ret
  k_dflt (refine' enterK (args := ⟨[.int 3 tm], []⟩) X T ?k1 ?k2 ?k3 ?k4 ?k5 ?_ ?c1 ?c2 ?c3 ?c4; (case k1 => k_is); (case k2 => k_is); (case k3 => omega); (case k4 => exact BindsTo.of_eq rfl); (case k5 => exact locs rfl); (case c1 => rfl); (case c2 => rfl); (case c3 => rfl); (case c4 => decide); k_whole)
  intro L' h' F' N'
  (try dsimp only)
  (try k_fold)
  k_steps
  all_goals (
    (with_reducible rename Fr _ _ _ _ => F9)
    (try dsimp only [qk])
    (try dsimp only)
    refine ret _ _ _ (fun b o e => F9.keep b o e))
theorem letters_4 : ∀ {w : World} {mg mb : Str → Option Value} {A : Around} {s : Shared} {Q E : Value → Shared → Prop} {tm : Tok}
    (X : (Mine.hd.heap_39 w.params).In s.heap) (T : TopRead Mine.hd.view_39 LO mg mb s.heap)
    (hd : A.depth + 8 < recursionLimit) (hu : A.units + 60 < cLine)
    (ret : ∀ h' tk' t', Ext s.heap h' → Q (.str (Str.ofString "D") t') { s with heap := h', toks := tk' }),
    wpAny (model PySem.Challenge.rw_ez0208_01.row.prog w) A (call (.ref 113) [.int 4 tm] []) Q E s := by
  k_fill
  intro w mg mb A s Q E tm X T hd hu ret
  k_dflt (refine' enterK (args := ⟨[.int 4 tm], []⟩) X T ?k1 ?k2 ?k3 ?k4 ?k5 ?_ ?c1 ?c2 ?c3 ?c4; (case k1 => k_is); (case k2 => k_is); (case k3 => omega); (case k4 => exact BindsTo.of_eq rfl); (case k5 => exact locs rfl); (case c1 => rfl); (case c2 => rfl); (case c3 => rfl); (case c4 => decide); k_whole)
  intro L' h' F' N'
  (try dsimp only)
  (try k_fold)
  k_steps
  all_goals (
    (with_reducible rename Fr _ _ _ _ => F9)
    (try dsimp only [qk])
    (try dsimp only)
    refine ret _ _ _ (fun b o e => F9.keep b o e))
theorem letters_26 : ∀ {w : World} {mg mb : Str → Option Value} {A : Around} {s : Shared} {Q E : Value → Shared → Prop} {tm : Tok}
    (X : (Mine.hd.heap_39 w.params).In s.heap) (T : TopRead Mine.hd.view_39 LO mg mb s.heap)
    (hd : A.depth + 8 < recursionLimit) (hu : A.units + 60 < cLine)
    (ret : ∀ h' tk' t', Ext s.heap h' → Q (.str (Str.ofString "Z") t') { s with heap := h', toks := tk' }),
    wpAny (model PySem.Challenge.rw_ez0208_01.row.prog w) A (call (.ref 113) [.int 26 tm] []) Q E s := by
  k_fill
  intro w mg mb A s Q E tm X T hd hu ret
  k_dflt (refine' enterK (args := ⟨[.int 26 tm], []⟩) X T ?k1 ?k2 ?k3 ?k4 ?k5 ?_ ?c1 ?c2 ?c3 ?c4; (case k1 => k_is); (case k2 => k_is); (case k3 => omega); (case k4 => exact BindsTo.of_eq rfl); (case k5 => exact locs rfl); (case c1 => rfl); (case c2 => rfl); (case c3 => rfl); (case c4 => decide); k_whole)
  intro L' h' F' N'
  (try dsimp only)
  (try k_fold)
  k_steps
  all_goals (
    (with_reducible rename Fr _ _ _ _ => F9)
    (try dsimp only [qk])
    (try dsimp only)
    refine ret _ _ _ (fun b o e => F9.keep b o e))
theorem letters_27 : ∀ {w : World} {mg mb : Str → Option Value} {A : Around} {s : Shared} {Q E : Value → Shared → Prop} {tm : Tok}
    (X : (Mine.hd.heap_39 w.params).In s.heap) (T : TopRead Mine.hd.view_39 LO mg mb s.heap)
    (hd : A.depth + 8 < recursionLimit) (hu : A.units + 60 < cLine)
    (ret : ∀ h' tk' t', Ext s.heap h' → Q (.str (Str.ofString "AA") t') { s with heap := h', toks := tk' }),
    wpAny (model PySem.Challenge.rw_ez0208_01.row.prog w) A (call (.ref 113) [.int 27 tm] []) Q E s := by
  k_fill
  intro w mg mb A s Q E tm X T hd hu ret
  k_dflt (refine' enterK (args := ⟨[.int 27 tm], []⟩) X T ?k1 ?k2 ?k3 ?k4 ?k5 ?_ ?c1 ?c2 ?c3 ?c4; (case k1 => k_is); (case k2 => k_is); (case k3 => omega); (case k4 => exact BindsTo.of_eq rfl); (case k5 => exact locs rfl); (case c1 => rfl); (case c2 => rfl); (case c3 => rfl); (case c4 => decide); k_whole)
  intro L' h' F' N'
  (try dsimp only)
  (try k_fold)
  k_steps
  all_goals (
    (with_reducible rename Fr _ _ _ _ => F9)
    (try dsimp only [qk])
    (try dsimp only)
    refine ret _ _ _ (fun b o e => F9.keep b o e))
theorem letters_28 : ∀ {w : World} {mg mb : Str → Option Value} {A : Around} {s : Shared} {Q E : Value → Shared → Prop} {tm : Tok}
    (X : (Mine.hd.heap_39 w.params).In s.heap) (T : TopRead Mine.hd.view_39 LO mg mb s.heap)
    (hd : A.depth + 8 < recursionLimit) (hu : A.units + 60 < cLine)
    (ret : ∀ h' tk' t', Ext s.heap h' → Q (.str (Str.ofString "AB") t') { s with heap := h', toks := tk' }),
    wpAny (model PySem.Challenge.rw_ez0208_01.row.prog w) A (call (.ref 113) [.int 28 tm] []) Q E s := by
  k_fill
  intro w mg mb A s Q E tm X T hd hu ret
  k_dflt (refine' enterK (args := ⟨[.int 28 tm], []⟩) X T ?k1 ?k2 ?k3 ?k4 ?k5 ?_ ?c1 ?c2 ?c3 ?c4; (case k1 => k_is); (case k2 => k_is); (case k3 => omega); (case k4 => exact BindsTo.of_eq rfl); (case k5 => exact locs rfl); (case c1 => rfl); (case c2 => rfl); (case c3 => rfl); (case c4 => decide); k_whole)
  intro L' h' F' N'
  (try dsimp only)
  (try k_fold)
  k_steps
  all_goals (
    (with_reducible rename Fr _ _ _ _ => F9)
    (try dsimp only [qk])
    (try dsimp only)
    refine ret _ _ _ (fun b o e => F9.keep b o e))
theorem letters_29 : ∀ {w : World} {mg mb : Str → Option Value} {A : Around} {s : Shared} {Q E : Value → Shared → Prop} {tm : Tok}
    (X : (Mine.hd.heap_39 w.params).In s.heap) (T : TopRead Mine.hd.view_39 LO mg mb s.heap)
    (hd : A.depth + 8 < recursionLimit) (hu : A.units + 60 < cLine)
    (ret : ∀ h' tk' t', Ext s.heap h' → Q (.str (Str.ofString "AC") t') { s with heap := h', toks := tk' }),
    wpAny (model PySem.Challenge.rw_ez0208_01.row.prog w) A (call (.ref 113) [.int 29 tm] []) Q E s := by
  k_fill
  intro w mg mb A s Q E tm X T hd hu ret
  k_dflt (refine' enterK (args := ⟨[.int 29 tm], []⟩) X T ?k1 ?k2 ?k3 ?k4 ?k5 ?_ ?c1 ?c2 ?c3 ?c4; (case k1 => k_is); (case k2 => k_is); (case k3 => omega); (case k4 => exact BindsTo.of_eq rfl); (case k5 => exact locs rfl); (case c1 => rfl); (case c2 => rfl); (case c3 => rfl); (case c4 => decide); k_whole)
  intro L' h' F' N'
  (try dsimp only)
  (try k_fold)
  k_steps
  all_goals (
    (with_reducible rename Fr _ _ _ _ => F9)
    (try dsimp only [qk])
    (try dsimp only)
    refine ret _ _ _ (fun b o e => F9.keep b o e))
theorem letters_701 : ∀ {w : World} {mg mb : Str → Option Value} {A : Around} {s : Shared} {Q E : Value → Shared → Prop} {tm : Tok}
    (X : (Mine.hd.heap_39 w.params).In s.heap) (T : TopRead Mine.hd.view_39 LO mg mb s.heap)
    (hd : A.depth + 8 < recursionLimit) (hu : A.units + 60 < cLine)
    (ret : ∀ h' tk' t', Ext s.heap h' → Q (.str (Str.ofString "ZY") t') { s with heap := h', toks := tk' }),
    wpAny (model PySem.Challenge.rw_ez0208_01.row.prog w) A (call (.ref 113) [.int 701 tm] []) Q E s := by
  k_fill
  intro w mg mb A s Q E tm X T hd hu ret
  k_dflt (refine' enterK (args := ⟨[.int 701 tm], []⟩) X T ?k1 ?k2 ?k3 ?k4 ?k5 ?_ ?c1 ?c2 ?c3 ?c4; (case k1 => k_is); (case k2 => k_is); (case k3 => omega); (case k4 => exact BindsTo.of_eq rfl); (case k5 => exact locs rfl); (case c1 => rfl); (case c2 => rfl); (case c3 => rfl); (case c4 => decide); k_whole)
  intro L' h' F' N'
  (try dsimp only)
  (try k_fold)
  k_steps
  all_goals (
    (with_reducible rename Fr _ _ _ _ => F9)
    (try dsimp only [qk])
    (try dsimp only)
    refine ret _ _ _ (fun b o e => F9.keep b o e))
theorem letters_702 : ∀ {w : World} {mg mb : Str → Option Value} {A : Around} {s : Shared} {Q E : Value → Shared → Prop} {tm : Tok}
    (X : (Mine.hd.heap_39 w.params).In s.heap) (T : TopRead Mine.hd.view_39 LO mg mb s.heap)
    (hd : A.depth + 8 < recursionLimit) (hu : A.units + 60 < cLine)
    (ret : ∀ h' tk' t', Ext s.heap h' → Q (.str (Str.ofString "ZZ") t') { s with heap := h', toks := tk' }),
    wpAny (model PySem.Challenge.rw_ez0208_01.row.prog w) A (call (.ref 113) [.int 702 tm] []) Q E s := by
  k_fill
  intro w mg mb A s Q E tm X T hd hu ret
  k_dflt (refine' enterK (args := ⟨[.int 702 tm], []⟩) X T ?k1 ?k2 ?k3 ?k4 ?k5 ?_ ?c1 ?c2 ?c3 ?c4; (case k1 => k_is); (case k2 => k_is); (case k3 => omega); (case k4 => exact BindsTo.of_eq rfl); (case k5 => exact locs rfl); (case c1 => rfl); (case c2 => rfl); (case c3 => rfl); (case c4 => decide); k_whole)
  intro L' h' F' N'
  (try dsimp only)
  (try k_fold)
  k_steps
  all_goals (
    (with_reducible rename Fr _ _ _ _ => F9)
    (try dsimp only [qk])
    (try dsimp only)
    refine ret _ _ _ (fun b o e => F9.keep b o e))
theorem letters_703 : ∀ {w : World} {mg mb : Str → Option Value} {A : Around} {s : Shared} {Q E : Value → Shared → Prop} {tm : Tok}
    (X : (Mine.hd.heap_39 w.params).In s.heap) (T : TopRead Mine.hd.view_39 LO mg mb s.heap)
    (hd : A.depth + 8 < recursionLimit) (hu : A.units + 60 < cLine)
    (ret : ∀ h' tk' t', Ext s.heap h' → Q (.str (Str.ofString "AAA") t') { s with heap := h', toks := tk' }),
    wpAny (model PySem.Challenge.rw_ez0208_01.row.prog w) A (call (.ref 113) [.int 703 tm] []) Q E s := by
  k_fill
  intro w mg mb A s Q E tm X T hd hu ret
  k_dflt (refine' enterK (args := ⟨[.int 703 tm], []⟩) X T ?k1 ?k2 ?k3 ?k4 ?k5 ?_ ?c1 ?c2 ?c3 ?c4; (case k1 => k_is); (case k2 => k_is); (case k3 => omega); (case k4 => exact BindsTo.of_eq rfl); (case k5 => exact locs rfl); (case c1 => rfl); (case c2 => rfl); (case c3 => rfl); (case c4 => decide); k_whole)
  intro L' h' F' N'
  (try dsimp only)
  (try k_fold)
  k_steps
  all_goals (
    (with_reducible rename Fr _ _ _ _ => F9)
    (try dsimp only [qk])
    (try dsimp only)
    refine ret _ _ _ (fun b o e => F9.keep b o e))
theorem letters_704 : ∀ {w : World} {mg mb : Str → Option Value} {A : Around} {s : Shared} {Q E : Value → Shared → Prop} {tm : Tok}
    (X : (Mine.hd.heap_39 w.params).In s.heap) (T : TopRead Mine.hd.view_39 LO mg mb s.heap)
    (hd : A.depth + 8 < recursionLimit) (hu : A.units + 60 < cLine)
    (ret : ∀ h' tk' t', Ext s.heap h' → Q (.str (Str.ofString "AAB") t') { s with heap := h', toks := tk' }),
    wpAny (model PySem.Challenge.rw_ez0208_01.row.prog w) A (call (.ref 113) [.int 704 tm] []) Q E s := by
  k_fill
  intro w mg mb A s Q E tm X T hd hu ret
  k_dflt (refine' enterK (args := ⟨[.int 704 tm], []⟩) X T ?k1 ?k2 ?k3 ?k4 ?k5 ?_ ?c1 ?c2 ?c3 ?c4; (case k1 => k_is); (case k2 => k_is); (case k3 => omega); (case k4 => exact BindsTo.of_eq rfl); (case k5 => exact locs rfl); (case c1 => rfl); (case c2 => rfl); (case c3 => rfl); (case c4 => decide); k_whole)
  intro L' h' F' N'
  (try dsimp only)
  (try k_fold)
  k_steps
  all_goals (
    (with_reducible rename Fr _ _ _ _ => F9)
    (try dsimp only [qk])
    (try dsimp only)
    refine ret _ _ _ (fun b o e => F9.keep b o e))
def IsC (c : Int) : Prop := c = 1 ∨ c = 2 ∨ c = 3 ∨ c = 4 ∨ c = 26 ∨ c = 27 ∨ c = 28 ∨ c = 29 ∨ c = 701 ∨ c = 702 ∨ c = 703 ∨ c = 704
def upS (c : Int) : Str := if c = 1 then Str.ofString "A" else if c = 2 then Str.ofString "B" else if c = 3 then Str.ofString "C" else if c = 4 then Str.ofString "D" else if c = 26 then Str.ofString "Z" else if c = 27 then Str.ofString "AA" else if c = 28 then Str.ofString "AB" else if c = 29 then Str.ofString "AC" else if c = 701 then Str.ofString "ZY" else if c = 702 then Str.ofString "ZZ" else if c = 703 then Str.ofString "AAA" else if c = 704 then Str.ofString "AAB" else Str.empty
theorem letters_c {w : World} {mg mb : Str → Option Value} {A : Around} {s : Shared} {Q E : Value → Shared → Prop} {tm : Tok} {c : Int}
    (X : (Mine.hd.heap_39 w.params).In s.heap) (T : TopRead Mine.hd.view_39 LO mg mb s.heap)
    (hd : A.depth + 8 < recursionLimit) (hu : A.units + 60 < cLine) (hc : IsC c)
    (ret : ∀ h' tk' t', Ext s.heap h' → Q (.str (upS c) t') { s with heap := h', toks := tk' }) :
    wpAny (model PySem.Challenge.rw_ez0208_01.row.prog w) A (call (.ref 113) [.int c tm] []) Q E s := by
  rcases hc with rfl | rfl | rfl | rfl | rfl | rfl | rfl | rfl | rfl | rfl | rfl | rfl
  · exact letters_1 X T hd hu ret
  · exact letters_2 X T hd hu ret
  · exact letters_3 X T hd hu ret
  · exact letters_4 X T hd hu ret
  · exact letters_26 X T hd hu ret
  · exact letters_27 X T hd hu ret
  · exact letters_28 X T hd hu ret
  · exact letters_29 X T hd hu ret
  · exact letters_701 X T hd hu ret
  · exact letters_702 X T hd hu ret
  · exact letters_703 X T hd hu ret
  · exact letters_704 X T hd hu ret
end Mine
end
section
open PySem PySem.W PySem.Calls PySem.Spec PyProof.Rows PySem.Builtin
set_option Elab.async false
set_option maxRecDepth 100000
set_option maxHeartbeats 4000000
set_option linter.unusedVariables false
namespace Mine
theorem slot_rev_init : Slot "reversed" "__init__" "object.__init__" :=
  Slot.of (owner := "object") (n := "__init__") (by rw [typeLookup_type, builtinLookup_eq_fast]; kernel_rfl) (by decide +kernel) (by decide +kernel) (by decide +kernel) (by first | exact .inl (by decide +kernel) | exact .inr (by decide +kernel)) (by rw [isSubtype_type]; kernel_rfl)
theorem called_rev : TypeCalled "reversed" "reversed.__new__" "object.__init__" :=
  ⟨by decide +kernel, by decide +kernel, ⟨_, _, F.mro_reversed⟩, F.made_reversed, by decide +kernel, by rw [isSubtype_type]; kernel_rfl, slot_rev_init⟩
theorem args_init_2 (a b : Value) : argsOk "object.__init__" ⟨[a, b], []⟩ := by
  unfold argsOk; rw [signature?_of (id := "object.__init__") (n := ['_', '_', 't', 'i', 'n', 'i', '_', '_']) (o := ['t', 'c', 'e', 'j', 'b', 'o']) (by kernel_rfl) F.owner_object]; kernel_rfl
theorem noReversed_str : typeLookup (.type "str") "__reversed__" = pure none := by rw [typeLookup_type, builtinLookup_eq_fast]; kernel_rfl
theorem sub_str_dict : isSubtype (.type "str") (.type "dict") = pure false := by rw [isSubtype_type]; kernel_rfl
theorem slot_rev_next : Slot "reversed" "__next__" "reversed.__next__" :=
  Slot.of (owner := "reversed") (n := "__next__") (by rw [typeLookup_type, builtinLookup_eq_fast]; kernel_rfl) (by decide +kernel) (by decide +kernel) (by decide +kernel) (by first | exact .inl (by decide +kernel) | exact .inr (by decide +kernel)) (by rw [isSubtype_type]; kernel_rfl)
theorem slot_rev_iter : Slot "reversed" "__iter__" "reversed.__iter__" :=
  Slot.of (owner := "reversed") (n := "__iter__") (by rw [typeLookup_type, builtinLookup_eq_fast]; kernel_rfl) (by decide +kernel) (by decide +kernel) (by decide +kernel) (by first | exact .inl (by decide +kernel) | exact .inr (by decide +kernel)) (by rw [isSubtype_type]; kernel_rfl)
theorem entry_rev_next : entryFor table "reversed.__next__" = some Builtin.«reversed.__next__» := entryFor_of_tree (by kernel_rfl)
theorem args_rev_next (a : Value) : argsOk "reversed.__next__" ⟨[a], []⟩ := by unfold argsOk; kernel_rfl
theorem args_rev_iter (a : Value) : argsOk "reversed.__iter__" ⟨[a], []⟩ := by unfold argsOk; kernel_rfl
theorem entry_rev_iter : entryFor table "reversed.__iter__" = some Builtin.«dict_keyiterator.__iter__» :=
  entryFor_alias (id' := "dict_keyiterator.__iter__") (by kernel_rfl) (by first | rfl | decide +kernel | (unfold String.splitOn; simp +decide [String.splitOnAux])) (by decide +kernel) (by kernel_rfl)
abbrev revS (x : Str) (t : Tok) (i : Int) : Obj := { cls := .type "reversed", data := .fields #[.str x t, rawInt i] }
abbrev IsRevS (h : Heap) (a : Addr) (x : Str) (t : Tok) (i : Int) : Prop := h.get? a = some { cls := .type "reversed", dict := none, data := .fields #[.str x t, rawInt i], slots := #[] }
theorem revType {s : Shared} {a : Addr} {x : Str} {t : Tok} {i : Int} (r : IsRevS s.heap a x t i) : s.TypeIs (.ref a) "reversed" := ⟨_, r, rfl⟩
section
variable {prog : Program} {w : World} {A : Around} {E : Value → Shared → Prop} {s : Shared}
theorem meets_rev_new (x : Str) (t : Tok) (hx : x.length ≤ 1000) :
    Meets (Builtin.«reversed.__new__» ⟨[.type "reversed", .str x t], []⟩) (fun _ R s => ∀ k, R (.ok (.ret (.ref s.heap.objs.size))) { s with heap := s.heap.push (revS x t ((x.length : Int) - 1)), toks := k }) :=
  .of_wp fun prog w A R s h => by
    unfold Builtin.«reversed.__new__»
    refine wpAny_bind (wpAny_of_eq (newClass_reversed _) ?_)
    try dsimp only
    refine wpAny_bind (wpAny_of_eq (a := ()) (by first | rfl | kernel_rfl) ?_)
    refine wpAny_bind (wpAny_of_eq (a := ()) (by first | rfl | kernel_rfl) ?_)
    try dsimp only
    refine wpAny_bind (wpAny_specialOf (typeIs_str s x t) noReversed_str ?_)
    try dsimp only
    first
    | refine wpAny_bind (m := pure _) (wpAny_pure ?_)
    | skip
    rw [if_neg (show ¬ ((!true) = true) from Bool.false_ne_true)]
    refine wpAny_bind (len_str (by omega) ?_)
    refine wpAny_bind (wpAny_of_eq (a := some (x.length : Int)) rfl ?_)
    dsimp only
    refine wpAny_bind ?_
    unfold SmallTypes.newRecord
    refine wpAny_newObj_type (wpAny_pure ⟨_, rfl, ?_⟩) (by size_fits)
    exact h _
theorem call_rev_str {x : Str} {t : Tok} {Q : Value → Shared → Prop} (hx : x.length ≤ 1000)
    (h : ∀ k, Q (.ref s.heap.objs.size) { s with heap := s.heap.push (revS x t ((x.length : Int) - 1)), toks := k }) : wpAny (model prog w) A (call (.type "reversed") [.str x t]) Q E s := by
  refine callType_new called_rev (by decide) (F.typeCall_reversed_1 _) (F.newCall_reversed_1 _) (fun obj => args_init_2 obj _) F.entry_reversed_new (meets_rev_new x t hx) ?_
  intro k
  exact ⟨⟨_, Heap.get?_push_size _ rfl, rfl⟩, h k⟩
theorem next_rev_item {it : Addr} {x : Str} {t : Tok} {i c : Nat} {Q : Value → Shared → Prop} (hit : IsRevS s.heap it x t (i : Int)) (hx : x.length ≤ 1000) (hc : x.cps[i]? = some c)
    (hQ : ∀ h' t' k, IsRevS h' it x t ((i : Int) - 1) → Heap.SameBut it s.heap h' → Q (.str ⟨#[c]⟩ t') { s with heap := h', toks := k }) : wpAny (model prog w) A (SmallTypes.nextOf (.ref it)) Q E s := by
  unfold SmallTypes.nextOf
  refine wpAny_bind (wpAny_callSpecial?_slot (name := Str.ofString "__next__") (revType hit) slot_rev_next
    (wpAny_call_entry slot_rev_next (revType hit) entry_rev_next ?_ (args_rev_next _)))
  unfold Builtin.«reversed.__next__»
  refine wpAny_bind (wpAny_of_eq (a := (Value.ref it, [])) rfl ?_)
  try dsimp only
  refine wpAny_bind (wpAny_field hit rfl (x := .str x t) rfl ?_)
  refine wpAny_bind (wpAny_field hit rfl (x := rawInt (i : Int)) rfl ?_)
  show wpAny _ _ (if (i : Int) < 0 then _ else _) _ _ s
  rw [if_neg (by omega)]
  refine wpAny_bind (wpAny_specialOf (typeIs_str s x t) F.slot_str_getitem.lookup ?_)
  simp only [Option.isNone_some, Bool.false_eq_true, if_false]
  refine wpAny_bind (wpAny_mkInt ?_)
  have hlt : i < x.length := by
    obtain ⟨h, _⟩ := Array.getElem?_eq_some_iff.mp hc
    exact h
  have hr : (decide ((i : Int) < -(2 ^ 63 : Int)) || decide ((i : Int) ≥ 2 ^ 63)) = false := by
    rw [decide_eq_false (by omega), decide_eq_false (by omega)]; rfl
  have hidx : (seqIndex? (i : Int) x.length).bind (x.cps[·]?) = some c := by
    unfold seqIndex?
    simp only [show ¬ ((i : Int) < 0) by omega, if_false]
    simp [hlt, hc]
  refine wpAny_bind (wpAny_attempt (PySem.P.getItem_str hr hidx ?_))
  dsimp only
  refine wpAny_bind (wpAny_field hit rfl (x := rawInt (i : Int)) rfl ?_)
  try dsimp only
  refine wpAny_bind (wpAny_setField_rec hit (by simp) fun h' hz' hs' => ?_)
  replace hz' : IsRevS h' it x t ((i : Int) - 1) := hz'
  exact wpAny_pure ⟨_, rfl, wpAny_pure (hQ _ _ _ hz' hs')⟩
theorem next_rev_end {it : Addr} {x : Str} {t : Tok} {Q : Value → Shared → Prop} (hh : A.handled = none) (hit : IsRevS s.heap it x t (-1))
    (hE : ∀ h' e, Heap.ExtBut it s.heap h' → (∃ o, h'.get? e = some o ∧ o.cls = .type "StopIteration") → E (.ref e) { s with heap := h' }) : wpAny (model prog w) A (SmallTypes.nextOf (.ref it)) Q E s := by
  unfold SmallTypes.nextOf
  refine wpAny_bind (wpAny_callSpecial?_slot (name := Str.ofString "__next__") (revType hit) slot_rev_next
    (wpAny_call_entry slot_rev_next (revType hit) entry_rev_next ?_ (args_rev_next _)))
  unfold Builtin.«reversed.__next__»
  refine wpAny_bind (wpAny_of_eq (a := (Value.ref it, [])) rfl ?_)
  try dsimp only
  refine wpAny_bind (wpAny_field hit rfl (x := .str x t) rfl ?_)
  refine wpAny_bind (wpAny_field hit rfl (x := rawInt (-1)) rfl ?_)
  show wpAny _ _ (if (-1 : Int) < 0 then _ else _) _ _ s
  rw [if_pos (by decide)]
  refine wpAny_bind (wpAny_rule ?_)
  refine wpAny_bind ?_
  show wpAny _ _ (setField (.ref it) 1 (rawInt (-1)) >>= _) _ _ _
  refine wpAny_bind (wpAny_setField_rec hit (by simp) fun h1 hz1 hs1 => ?_)
  refine wpAny_setField_rec hz1 (by simp) fun h2 hz2 hs2 => ?_
  refine wpAny_bind ?_
  show wpAny _ _ (newExc (.type "StopIteration") [] >>= _) _ _ _
  refine wpAny_bind ?_
  simp only [newExc, newTuple]
  refine wpAny_bind (wpAny_newObj_type ?_ (by size_fits))
  refine wpAny_bind (m := firstArgMember _ _) (wpAny_of_eq (a := Value.none) (by first | rfl | (simp only [firstArgMember]; rfl)) ?_)
  refine wpAny_newObj_type ?_ (by size_fits)
  simp only [raiseNew]
  refine wpAny_bind (wpAny_handled ?_)
  first | rw [show A.in1.handled = none from hh] | rw [hh]
  refine wpAny_bind (wpAny_pure (wpAny_throw ?_))
  refine hE _ _ ((((hs1.extBut).trans hs2.extBut).push _).push _) ⟨_, Heap.get?_push_size _ rfl, rfl⟩
theorem iter_rev {it : Addr} {x : Str} {t : Tok} {i : Int} {Q : Value → Shared → Prop} (hit : IsRevS s.heap it x t i) (h : Q (.ref it) s) : wpAny (model prog w) A (pyIter (.ref it)) Q E s := by
  refine wpAny_pyIter_slot (revType hit) slot_rev_iter (wpAny_call_entry slot_rev_iter (revType hit) entry_rev_iter ?_ (args_rev_iter _))
  show wpAny _ _ (ret (.ref it)) _ _ s
  exact wpAny_pure ⟨_, rfl, "reversed", _, revType hit, slot_rev_next.lookup, h⟩
theorem next_tup {it t : Addr} {i : Nat} {items : Array Value} {x : Value} {Q : Value → Shared → Prop} (hit : s.heap.IsTupleIter it t i) (ht : s.heap.IsTuple t items) (hx : items[i]? = some x)
    (hQ : ∀ h', h'.IsTupleIter it t (i + 1) → Heap.SameBut it s.heap h' → Q x { s with heap := h' }) : wpAny (model prog w) A (SmallTypes.nextOf (.ref it)) Q E s := by
  obtain ⟨o, ho, hc, hd⟩ := id hit
  obtain ⟨ol, hol, _, nl, hdl⟩ := ht
  unfold SmallTypes.nextOf
  refine wpAny_bind (wpAny_callSpecial?_slot (name := Str.ofString "__next__") hit.typeIs F.slot_tuple_iterator_next
    (wpAny_call_entry F.slot_tuple_iterator_next hit.typeIs F.entry_tuple_iterator_next ?_ (F.args_tuple_iterator_next_1 _)))
  show wpAny _ _ (field (.ref it) 0 >>= _) _ _ s
  refine wpAny_bind (wpAny_field ho hd (x := .ref t) rfl ?_)
  show wpAny _ _ (if (Value.ref t == Value.none) = true then _ else _) _ _ s
  rw [if_neg (show ¬ ((Value.ref t == Value.none) = true) from Bool.false_ne_true)]
  show wpAny _ _ (field (.ref it) 1 >>= _) _ _ s
  refine wpAny_bind (wpAny_field ho hd (x := .int i 0) rfl ?_)
  show wpAny _ _ (seqItems? (.ref t) >>= _) _ _ s
  refine wpAny_bind (wpAny_seqItems hol hdl ?_)
  simp only [Int.toNat_natCast, hx]
  refine wpAny_bind (wpAny_setField ho hd (by simp) (wpAny_pure ⟨x, rfl, wpAny_pure (hQ _ ?_ (Heap.SameBut.update ..))⟩))
  exact ⟨_, Heap.get?_update_self _ ho (Obj.isFreed_of_fields (Obj.data_mapFields hd _)), (Obj.cls_mapFields ..).trans hc, by
    rw [Obj.data_mapFields hd]; simp [rawInt]⟩
structure ZA (z TI TO i1 i2 l2 : Addr) : Prop where
  TIz : TI ≠ z
  TOz : TO ≠ z
  i1z : i1 ≠ z
  i2z : i2 ≠ z
  TITO : TI ≠ TO
  TIi1 : TI ≠ i1
  TIi2 : TI ≠ i2
  TOi1 : TO ≠ i1
  TOi2 : TO ≠ i2
  i12 : i1 ≠ i2
  l2z : l2 ≠ z
  l2TO : l2 ≠ TO
  l2i1 : l2 ≠ i1
  l2i2 : l2 ≠ i2
theorem zip_item {z TI TO i1 i2 l2 : Addr} {k1 k2 c : Nat} {xs : Str} {t : Tok} {ys : Array Value} {y a b : Value} {Q : Value → Shared → Prop} (D : ZA z TI TO i1 i2 l2)
    (hz : IsZip s.heap z TI TO .none) (hTI : IsPair s.heap TI (.ref i1) (.ref i2)) (hTO : IsPair s.heap TO a b)
    (h1 : IsRevS s.heap i1 xs t (k1 : Int)) (h2 : s.heap.IsTupleIter i2 l2 k2) (hl2 : s.heap.IsTuple l2 ys) (hlen : xs.length ≤ 1000) (hx : xs.cps[k1]? = some c) (hy : ys[k2]? = some y)
    (hQ : ∀ h' tk t', IsZip h' z TI TO (rawInt s.heap.objs.size) → IsPair h' TO (.str ⟨#[c]⟩ t') y → IsRevS h' i1 xs t ((k1 : Int) - 1) → h'.IsTupleIter i2 l2 (k2 + 1) → IsPair h' s.heap.objs.size (.str ⟨#[c]⟩ t') y → h'.objs.size = s.heap.objs.size + 1 →
      (∀ c o, c ≠ z → c ≠ TO → c ≠ i1 → c ≠ i2 → s.heap.get? c = some o → h'.get? c = some o) → Q (.ref s.heap.objs.size) { s with heap := h', toks := tk }) :
    wpAny (model prog w) A (Builtin.«zip.__next__» ⟨[.ref z], []⟩) (fun fin s' => ∃ v, fin = .done (.ret v) ∧ Q v s') E s := by
  show wpAny _ _ (field (.ref z) 2 >>= _) _ _ _
  refine wpAny_bind (wpAny_field hz rfl (x := .bool false) rfl ?_)
  show wpAny _ _ (field (.ref z) 3 >>= _) _ _ _
  refine wpAny_bind (wpAny_field hz rfl (x := .ref TI) rfl ?_)
  refine wpAny_bind (wpAny_seqItems hTI rfl ?_)
  show wpAny _ _ (Builtin.SmallTypes.ownedTupleIsFree (.ref z) >>= _) _ _ _
  refine wpAny_bind ?_
  unfold Builtin.SmallTypes.ownedTupleIsFree
  refine wpAny_bind (wpAny_field hz rfl (x := .none) rfl (wpAny_pure ?_))
  simp only [if_true]
  refine wpAny_bind (wpAny_rule ?_)
  refine wpAny_bind (wpAny_field hz rfl (x := .ref TO) rfl ?_)
  refine wpAny_bind (wpAny_setField_rec hz (by simp) fun h₁ hz₁ hs₁ => ?_)
  replace hz₁ : IsZip h₁ z TI TO .ellipsis := hz₁
  refine wpAny_bind ?_
  simp only [List.zipIdx_cons, List.zipIdx_nil, List.forIn_cons, List.forIn_nil]
  refine wpAny_bind (wpAny_bind (wpAny_onRaise ?_))
  show wpAny _ _ (Builtin.SmallTypes.nextOf (.ref i1) >>= _) _ _ _
  refine wpAny_bind (next_rev_item (hs₁.extBut _ _ D.i1z h1) hlen hx fun h₂ t₂ k₂ h1₂ hs₂ => wpAny_pure ?_)
  have hTO₂ : IsPair h₂ TO a b := hs₂.extBut _ _ D.TOi1 (hs₁.extBut _ _ D.TOz hTO)
  refine wpAny_bind (wpAny_seqItems hTO₂ rfl ?_)
  refine wpAny_bind (wpAny_updateSeq_pair hTO₂ fun h₃ hTO₃ hs₃ => ?_)
  replace hTO₃ : IsPair h₃ TO (.str ⟨#[c]⟩ t₂) b := hTO₃
  refine wpAny_bind (wpAny_letGo (wpAny_pure ?_))
  refine wpAny_bind (wpAny_bind (wpAny_onRaise ?_))
  show wpAny _ _ (Builtin.SmallTypes.nextOf (.ref i2) >>= _) _ _ _
  refine wpAny_bind (next_tup (((h2.extBut hs₁.extBut D.i2z).extBut hs₂.extBut D.i12.symm).extBut hs₃.extBut D.TOi2.symm)
    (((hl2.at fun o e => hs₁.extBut _ _ D.l2z e).at fun o e => hs₂.extBut _ _ D.l2i1 e).at fun o e => hs₃.extBut _ _ D.l2TO e) hy fun h₄ h2₄ hs₄ => wpAny_pure ?_)
  have hTO₄ : IsPair h₄ TO (.str ⟨#[c]⟩ t₂) b := hs₄.extBut _ _ D.TOi2 hTO₃
  refine wpAny_bind (wpAny_seqItems hTO₄ rfl ?_)
  refine wpAny_bind (wpAny_updateSeq_pair hTO₄ fun h₅ hTO₅ hs₅ => ?_)
  replace hTO₅ : IsPair h₅ TO (.str ⟨#[c]⟩ t₂) y := hTO₅
  refine wpAny_bind (wpAny_letGo (wpAny_pure (wpAny_pure ?_)))
  refine wpAny_bind (wpAny_seqItems hTO₅ rfl ?_)
  refine wpAny_bind (wpAny_newTuple ?_)
  have hsz : h₅.objs.size = s.heap.objs.size := by rw [hs₅.1, hs₄.1, hs₃.1, hs₂.1, hs₁.1]
  have hz₅ : IsZip h₅ z TI TO .ellipsis := hs₅.extBut _ _ D.TOz.symm (hs₄.extBut _ _ D.i2z.symm (hs₃.extBut _ _ D.TOz.symm (hs₂.extBut _ _ D.i1z.symm hz₁)))
  have hk₅ : ∀ c o, c ≠ z → c ≠ TO → c ≠ i1 → c ≠ i2 → s.heap.get? c = some o → h₅.get? c = some o := fun c o c1 c2 c3 c4 e =>
    hs₅.extBut _ _ c2 (hs₄.extBut _ _ c4 (hs₃.extBut _ _ c2 (hs₂.extBut _ _ c3 (hs₁.extBut _ _ c1 e))))
  have h1₅ : IsRevS h₅ i1 xs t ((k1 : Int) - 1) := hs₅.extBut _ _ D.TOi1.symm (hs₄.extBut _ _ D.i12 (hs₃.extBut _ _ D.TOi1.symm h1₂))
  have h2₅ : h₅.IsTupleIter i2 l2 (k2 + 1) := h2₄.extBut hs₅.extBut D.TOi2.symm
  have hzlt : z < h₅.objs.size := Heap.lt_size hz₅
  show wpAny _ _ (Builtin.SmallTypes.ownedTupleHandOut (.ref z) (.ref h₅.objs.size) >>= _) _ _ _
  refine wpAny_bind ?_
  unfold Builtin.SmallTypes.ownedTupleHandOut
  have hz₆ : IsZip (h₅.push { cls := .type "tuple", data := .seq #[.str ⟨#[c]⟩ t₂, y] }) z TI TO .ellipsis := Heap.get?_push_of_some _ hz₅
  refine wpAny_bind (wpAny_setField_rec hz₆ (by simp) fun h₇ hz₇ hs₇ => ?_)
  replace hz₇ : IsZip h₇ z TI TO (rawInt h₅.objs.size) := hz₇
  refine wpAny_setField_rec hz₇ (by simp) fun h₈ hz₈ hs₈ => ?_
  replace hz₈ : IsZip h₈ z TI TO (rawInt h₅.objs.size) := hz₈
  have up : ∀ c o, c ≠ z → h₅.get? c = some o → h₈.get? c = some o := fun c o c1 e => hs₈.extBut _ _ c1 (hs₇.extBut _ _ c1 (Heap.get?_push_of_some _ e))
  have hT₈ : IsPair h₈ h₅.objs.size (.str ⟨#[c]⟩ t₂) y := hs₈.extBut _ _ (Nat.ne_of_gt hzlt) (hs₇.extBut _ _ (Nat.ne_of_gt hzlt) (Heap.get?_push_size _ rfl))
  have hz8 : h₈.objs.size = h₅.objs.size + 1 := by rw [hs₈.1, hs₇.1, Heap.size_push]
  rw [hsz] at hz₈ hT₈ hz8
  refine wpAny_pure ⟨_, rfl, ?_⟩
  show Q (.ref h₅.objs.size) _
  rw [hsz]
  exact hQ h₈ _ _ hz₈ (up _ _ D.TOz hTO₅) (up _ _ D.i1z h1₅) (h2₅.at fun o e => up _ o D.i2z e) hT₈ hz8 fun c o c1 c2 c3 c4 e => up c o c1 (hk₅ c o c1 c2 c3 c4 e)
theorem zip_end {z TI TO i1 i2 : Addr} {xs : Str} {t : Tok} {Q : Fin → Shared → Prop} (hh : A.handled = none) (i1z : i1 ≠ z)
    (hz : IsZip s.heap z TI TO .none) (hTI : IsPair s.heap TI (.ref i1) (.ref i2)) (h1 : IsRevS s.heap i1 xs t (-1))
    (hE : ∀ h' e, (∀ c o, c ≠ z → c ≠ i1 → s.heap.get? c = some o → h'.get? c = some o) → (∃ o, h'.get? e = some o ∧ o.cls = .type "StopIteration") → E (.ref e) { s with heap := h' }) :
    wpAny (model prog w) A (Builtin.«zip.__next__» ⟨[.ref z], []⟩) Q E s := by
  show wpAny _ _ (field (.ref z) 2 >>= _) _ _ _
  refine wpAny_bind (wpAny_field hz rfl (x := .bool false) rfl ?_)
  show wpAny _ _ (field (.ref z) 3 >>= _) _ _ _
  refine wpAny_bind (wpAny_field hz rfl (x := .ref TI) rfl ?_)
  refine wpAny_bind (wpAny_seqItems hTI rfl ?_)
  show wpAny _ _ (Builtin.SmallTypes.ownedTupleIsFree (.ref z) >>= _) _ _ _
  refine wpAny_bind ?_
  unfold Builtin.SmallTypes.ownedTupleIsFree
  refine wpAny_bind (wpAny_field hz rfl (x := .none) rfl (wpAny_pure ?_))
  simp only [if_true]
  refine wpAny_bind (wpAny_rule ?_)
  refine wpAny_bind (wpAny_field hz rfl (x := .ref TO) rfl ?_)
  refine wpAny_bind (wpAny_setField_rec hz (by simp) fun h₁ hz₁ hs₁ => ?_)
  replace hz₁ : IsZip h₁ z TI TO .ellipsis := hz₁
  refine wpAny_bind ?_
  simp only [List.zipIdx_cons, List.zipIdx_nil, List.forIn_cons, List.forIn_nil]
  refine wpAny_bind (wpAny_bind (wpAny_onRaise ?_))
  show wpAny _ _ (Builtin.SmallTypes.nextOf (.ref i1) >>= _) _ _ _
  refine wpAny_bind (next_rev_end hh (hs₁.extBut _ _ i1z h1) fun h₂ e hs₂ he => ?_)
  obtain ⟨oe, hoe, hce⟩ := he
  have hz₂ : IsZip h₂ z TI TO .ellipsis := hs₂ _ _ i1z.symm hz₁
  have hez : e ≠ z := fun x => by subst x; rw [hz₂] at hoe; cases hoe; simp at hce
  refine wpAny_setField_rec hz₂ (by simp) fun h₃ _ hs₃ => hE h₃ e (fun c o c1 c3 x => hs₃.extBut _ _ c1 (hs₂ _ _ c3 (hs₁.extBut _ _ c1 x))) ⟨oe, hs₃.extBut _ _ hez hoe, hce⟩
theorem wpAny_zip_item {z TI TO i1 i2 l2 : Addr} {k1 k2 c : Nat} {xs : Str} {t : Tok} {ys : Array Value} {y a b : Value} {Q : Option Value → Shared → Prop} (D : ZA z TI TO i1 i2 l2)
    (hz : IsZip s.heap z TI TO .none) (hTI : IsPair s.heap TI (.ref i1) (.ref i2)) (hTO : IsPair s.heap TO a b)
    (h1 : IsRevS s.heap i1 xs t (k1 : Int)) (h2 : s.heap.IsTupleIter i2 l2 k2) (hl2 : s.heap.IsTuple l2 ys) (hlen : xs.length ≤ 1000) (hx : xs.cps[k1]? = some c) (hy : ys[k2]? = some y)
    (hQ : ∀ h' tk t', IsZip h' z TI TO (rawInt s.heap.objs.size) → IsPair h' TO (.str ⟨#[c]⟩ t') y → IsRevS h' i1 xs t ((k1 : Int) - 1) → h'.IsTupleIter i2 l2 (k2 + 1) → IsPair h' s.heap.objs.size (.str ⟨#[c]⟩ t') y → h'.objs.size = s.heap.objs.size + 1 →
      (∀ c o, c ≠ z → c ≠ TO → c ≠ i1 → c ≠ i2 → s.heap.get? c = some o → h'.get? c = some o) → Q (some (.ref s.heap.objs.size)) { s with heap := h', toks := tk }) :
    wpAny (model prog w) A (pyNext (.ref z)) Q E s := by
  have hT : s.TypeIs (.ref z) "zip" := ⟨_, hz, rfl⟩
  unfold pyNext
  exact wpAny_bind (wpAny_attempt (wpAny_callSpecial?_slot (name := Str.ofString "__next__") hT F.slot_zip_next
    (wpAny_call_entry F.slot_zip_next hT F.entry_zip_next
      (zip_item D hz hTI hTO h1 h2 hl2 hlen hx hy fun h' tk t' a1 a2 a3 a4 a5 a6 a7 => wpAny_pure (hQ h' tk t' a1 a2 a3 a4 a5 a6 a7)) (F.args_zip_next_1 _))))
theorem wpAny_zip_end {z TI TO i1 i2 : Addr} {xs : Str} {t : Tok} {Q : Option Value → Shared → Prop} (hh : A.handled = none) (i1z : i1 ≠ z)
    (hz : IsZip s.heap z TI TO .none) (hTI : IsPair s.heap TI (.ref i1) (.ref i2)) (h1 : IsRevS s.heap i1 xs t (-1))
    (hQ : ∀ h', (∀ c o, c ≠ z → c ≠ i1 → s.heap.get? c = some o → h'.get? c = some o) → Q none { s with heap := h' }) : wpAny (model prog w) A (pyNext (.ref z)) Q E s := by
  have hT : s.TypeIs (.ref z) "zip" := ⟨_, hz, rfl⟩
  unfold pyNext
  refine wpAny_bind (wpAny_attempt (wpAny_callSpecial?_slot (name := Str.ofString "__next__") hT F.slot_zip_next
    (wpAny_call_entry F.slot_zip_next hT F.entry_zip_next (zip_end hh i1z hz hTI h1 fun h' e hk he => ?_) (F.args_zip_next_1 _))))
  obtain ⟨o, ho, hc⟩ := he
  refine wpAny_bind (wpAny_isInstance (T := "StopIteration") (b := true) ⟨o, ho, hc⟩ isSubtype_stop ?_)
  exact wpAny_pure (hQ _ hk)
end
end Mine
end
section
open PySem PySem.W PySem.Calls PySem.Spec PyProof.Rows PySem.Builtin
set_option Elab.async false
set_option maxRecDepth 100000
set_option maxHeartbeats 4000000
set_option linter.unusedVariables false
namespace Mine
section
variable {prog : Program} {w : World} {A : Around} {E : Value → Shared → Prop} {s : Shared}
theorem walksZR (hh : A.handled = none) (z TI TO i1 i2 l2 : Addr) (D : ZA z TI TO i1 i2 l2) (xs : Str) (t : Tok) (ys : Array Value) (hl : xs.length ≤ ys.size) (hlen : xs.length ≤ 1000) :
    WalksT prog w A z [z, TI, TO, i1, i2, l2] [z, TO, i1, i2] xs.length
      (fun i vals => ∃ c y t', i < xs.length ∧ xs.cps[xs.length - 1 - i]? = some c ∧ ys[i]? = some y ∧ vals = #[.str ⟨#[c]⟩ t', y])
      (fun i h => IsZip h z TI TO .none ∧ IsPair h TI (.ref i1) (.ref i2) ∧ (∃ a b, IsPair h TO a b) ∧ IsRevS h i1 xs t ((xs.length : Int) - 1 - i) ∧ h.IsTupleIter i2 l2 i ∧ h.IsTuple l2 ys)
      (fun i T h => IsZip h z TI TO (rawInt T) ∧ IsPair h TI (.ref i1) (.ref i2) ∧ (∃ a b, IsPair h TO a b) ∧ IsRevS h i1 xs t ((xs.length : Int) - 1 - (i + 1 : Nat)) ∧ h.IsTupleIter i2 l2 (i + 1) ∧ h.IsTuple l2 ys ∧
        T ≠ z ∧ T ≠ TO ∧ T ≠ i1 ∧ T ≠ i2) where
  sub := fun c hc => by simp at hc ⊢; rcases hc with rfl | rfl | rfl | rfl <;> simp
  frame := fun i h h' hst hk => by
    obtain ⟨hz, hTI, ⟨a, b, hTO⟩, h1, h2, hl2⟩ := hst
    exact ⟨hk z (by simp) _ hz, hk TI (by simp) _ hTI, ⟨a, b, hk TO (by simp) _ hTO⟩, hk i1 (by simp) _ h1, h2.at fun o e => hk i2 (by simp) o e, hl2.at fun o e => hk l2 (by simp) o e⟩
  item := fun i s Q E hi hst hQ => by
    obtain ⟨hz, hTI, ⟨a, b, hTO⟩, h1, h2, hl2⟩ := hst
    have hiy : i < ys.size := Nat.lt_of_lt_of_le hi hl
    have hix : xs.length - 1 - i < xs.cps.size := by show _ < xs.length; omega
    have e : (xs.length : Int) - 1 - i = ((xs.length - 1 - i : Nat) : Int) := by omega
    have e2 : (xs.length : Int) - 1 - ((i + 1 : Nat) : Int) = ((xs.length - 1 - i : Nat) : Int) - 1 := by omega
    rw [e] at h1
    refine wpAny_zip_item D hz hTI hTO h1 h2 hl2 hlen (Array.getElem?_eq_getElem hix) (Array.getElem?_eq_getElem hiy) fun h' tk t' a1 a2 a3 a4 a5 a6 hk => ?_
    have lt : ∀ {c o}, s.heap.get? c = some o → s.heap.objs.size ≠ c := fun e => Nat.ne_of_gt (Heap.lt_size e)
    rw [← e2] at a3
    exact hQ s.heap.objs.size #[.str ⟨#[xs.cps[xs.length - 1 - i]]⟩ t', ys[i]] h' tk ⟨_, _, t', hi, Array.getElem?_eq_getElem hix, Array.getElem?_eq_getElem hiy, rfl⟩ (Nat.le_refl _) ⟨_, a5, rfl, _, rfl⟩
      ⟨a1, hk _ _ D.TIz D.TITO D.TIi1 D.TIi2 hTI, ⟨_, _, a2⟩, a3, a4, hl2.at fun o e => hk _ o D.l2z D.l2TO D.l2i1 D.l2i2 e,
        lt hz, lt hTO, lt h1, (by obtain ⟨_, e, _⟩ := h2; exact lt e)⟩
      fun c o hc e => hk c o (fun x => hc (by simp [x])) (fun x => hc (by simp [x])) (fun x => hc (by simp [x])) (fun x => hc (by simp [x])) e
  go := fun elts k pos i T s Q E hm hQ => by
    obtain ⟨hz, hTI, ⟨a, b, hTO⟩, h1, h2, hl2, _⟩ := hm
    refine wpAny_letOwnedTupleGo_zip hz fun h' hz' hs' => hQ h' ⟨hz', hs'.extBut _ _ D.TIz hTI, ⟨a, b, hs'.extBut _ _ D.TOz hTO⟩, hs'.extBut _ _ D.i1z h1, h2.extBut hs'.extBut D.i2z,
      hl2.at fun o e => hs'.extBut _ _ D.l2z e⟩ fun c o hc e => hs'.extBut _ _ (fun x => hc (by simp [x])) e
  apart := fun i T h hm hT => by
    obtain ⟨_, _, _, _, _, _, t1, t2, t3, t4⟩ := hm
    simp at hT
    rcases hT with rfl | rfl | rfl | rfl
    · exact t1 rfl
    · exact t2 rfl
    · exact t3 rfl
    · exact t4 rfl
  done := fun s Q E hst hQ => by
    obtain ⟨hz, hTI, ⟨a, b, hTO⟩, h1, h2, hl2⟩ := hst
    have e : (xs.length : Int) - 1 - (xs.length : Nat) = -1 := by omega
    rw [e] at h1
    exact wpAny_zip_end hh D.i1z hz hTI h1 fun h' hk => hQ h' s.toks fun c o hc e =>
      hk c o (fun x => hc (by simp [x])) (fun x => hc (by simp [x])) e
  self := fun i s Q E hst hQ => wpAny_pyIter_zip hst.1 hQ
abbrev zrH1 (h : Heap) (l2 : Addr) : Heap := h.push { cls := .type "tuple_iterator", data := .fields #[.ref l2, .int 0 0] }
abbrev zrH2 (h : Heap) (R l2 : Addr) : Heap := (zrH1 h l2).push { cls := .type "tuple", data := .seq #[.ref R, .ref h.objs.size] }
abbrev zrH3 (h : Heap) (R l2 : Addr) : Heap := (zrH2 h R l2).push { cls := .type "tuple", data := .seq #[.none, .none] }
abbrev zrH4 (h : Heap) (R l2 : Addr) : Heap := (zrH3 h R l2).push { cls := .type "zip", data := .fields #[.none, .bool false, .bool false, .ref (zrH1 h l2).objs.size, .ref (zrH2 h R l2).objs.size] }
theorem meets_zipR (R l2 : Addr) (xs : Str) (t : Tok) (i : Int) (ys : Array Value) :
    Meets (Builtin.«zip.__new__» ⟨[.type "zip", .ref R, .ref l2], []⟩) (fun _ R' s => IsRevS s.heap R xs t i ∧ s.heap.IsTuple l2 ys ∧
      R' (.ok (.ret (.ref (zrH3 s.heap R l2).objs.size))) { s with heap := zrH4 s.heap R l2 }) :=
  .of_wp fun prog w A R' s h => by
    obtain ⟨hp, g, d, tk, os⟩ := s; obtain ⟨hl1, hl2, h⟩ := h
    have hsub := sub_zip
    have hL1 : IsRevS (Shared.heap ⟨hp, g, d, tk, os⟩) R xs t i := hl1
    have hL2 : Heap.IsTuple (Shared.heap ⟨hp, g, d, tk, os⟩) l2 ys := hl2
    wp_walk using iter_rev hL1, wpAny_pyIter_tuple hL2
    exact ⟨_, rfl, h⟩
def zipR (xs : List Nat) (ys : List Value) : List Itm := List.zipWith (fun c y => Itm.pair (fun t => .str ⟨#[c]⟩ t) y) xs.reverse ys
theorem zr_apart (I R l2 : Nat) (h1 : R < I) (h2 : l2 < I) (h3 : l2 ≠ R) : ZA (I + 3) (I + 1) (I + 2) R I l2 := by
  constructor <;> (refine neN ?_; omega)
theorem call_zipR {R l2 : Addr} {xs : Str} {t : Tok} {i : Int} {ys : Array Value} {Q : Value → Shared → Prop} (hl1 : IsRevS s.heap R xs t i) (hl2 : s.heap.IsTuple l2 ys)
    (h : ∀ h', IsZip h' (s.heap.objs.size + 3) (s.heap.objs.size + 1) (s.heap.objs.size + 2) .none → IsPair h' (s.heap.objs.size + 1) (.ref R) (.ref s.heap.objs.size) →
      IsPair h' (s.heap.objs.size + 2) .none .none → h'.IsTupleIter s.heap.objs.size l2 0 →
      (∀ c o, s.heap.get? c = some o → h'.get? c = some o) → Q (.ref (s.heap.objs.size + 3)) { s with heap := h' }) :
    wpAny (model prog w) A (call (.type "zip") [.ref R, .ref l2]) Q E s := by
  refine callType_new F.called_zip (by decide) (F.typeCall_zip_2 _ _) (F.newCall_zip_2 _ _) (fun obj => F.args_object_init_3 obj _ _) F.entry_zip_new
    (meets_zipR R l2 xs t i ys) ⟨hl1, hl2, ?_⟩
  have z1 : (zrH1 s.heap l2).objs.size = s.heap.objs.size + 1 := Heap.size_push ..
  have z2 : (zrH2 s.heap R l2).objs.size = s.heap.objs.size + 2 := by rw [Heap.size_push, z1]
  have z3 : (zrH3 s.heap R l2).objs.size = s.heap.objs.size + 3 := by rw [Heap.size_push, z2]
  have g4 : (zrH4 s.heap R l2).get? (zrH3 s.heap R l2).objs.size = some _ := Heap.get?_push_size _ rfl
  have g3 : (zrH4 s.heap R l2).get? (zrH2 s.heap R l2).objs.size = some _ := Heap.get?_push_of_some _ (Heap.get?_push_size _ rfl)
  have g2 : (zrH4 s.heap R l2).get? (zrH1 s.heap l2).objs.size = some _ := Heap.get?_push_of_some _ (Heap.get?_push_of_some _ (Heap.get?_push_size _ rfl))
  have g1 : (zrH4 s.heap R l2).get? s.heap.objs.size = some _ := Heap.get?_push_of_some _ (Heap.get?_push_of_some _ (Heap.get?_push_of_some _ (Heap.get?_push_size _ rfl)))
  show _ ∧ _
  rw [z1, z2, z3] at g4
  rw [z1] at g2
  rw [z2] at g3
  rw [z3]
  exact ⟨⟨_, g4, rfl⟩, h _ g4 g2 g3 ⟨_, g1, rfl, rfl⟩ fun c o x =>
    Heap.get?_push_of_some _ (Heap.get?_push_of_some _ (Heap.get?_push_of_some _ (Heap.get?_push_of_some _ x)))⟩
variable {env : Env} {h₀ : Heap} {body : List Stmt} {Q : Flow → Shared → Prop} {K : Frag}
theorem zipR_turns {elts : List Expr} {k : Nat} {pos : Pos} {R l2 : Addr} {lo : Obj} {xs : Str} {t : Tok} {ys : List Value} {its : List Itm} {n : Nat} {m₀ : Str → Option Value}
    (hh : A.handled = none) (F : Fr h₀ env.locals s.heap m₀) (N : News h₀ env.locals s.heap [(R, revS xs t ((xs.length : Int) - 1))]) (X₀ : K.In h₀) (hk : K.lookup l2 = some lo) (hc : lo.cls = .type "tuple") (hd : lo.data = .seq ys.toArray n)
    (hl : xs.length ≤ ys.length) (hlen : xs.length ≤ 1000) (hi : zipR xs.cps.toList ys = its)
    (rest₀ : ∀ I : Addr, R < I → ItemsRest prog w A E h₀ env (.Tuple elts k pos) body Q s [(I + 3, "zip"), (I + 1, "tuple"), (I + 2, "tuple"), (R, "reversed"), (I, "tuple_iterator")] [] its m₀ []) :
    wpAny (model prog w) A (call (.type "zip") [.ref R, .ref l2]) (fun xv s₁ => wpAny (model prog w) A (pyIter xv) (fun it s₂ => TurnsAt prog w A h₀ env (.Tuple elts k pos) body Q E it s₂) E s₁) E s := by
  subst hi
  have hR := N _ (List.mem_cons_self ..)
  have hg : h₀.get? l2 = some lo := X₀ _ _ hk
  have hax2 : s.heap.get? l2 = some lo := F.keep _ _ hg
  have hl2 : s.heap.IsTuple l2 ys.toArray := ⟨lo, hax2, hc, n, hd⟩
  have hRI : R < s.heap.objs.size := Heap.lt_size hR.1
  have hLs : env.locals < s.heap.objs.size := F.ns.lt
  have h2R : l2 ≠ R := fun q => by have := hR.2.2; rw [← q, hg] at this; cases this
  have h2I : l2 < s.heap.objs.size := Heap.lt_size hax2
  have D := zr_apart s.heap.objs.size R l2 hRI h2I h2R
  refine call_zipR (ys := ys.toArray) hR.1 hl2 fun h' hz hTI hTO hi2 hk' => ?_
  refine wpAny_pyIter_zip hz ?_
  refine ktg_core (tk0 := s.toks) (keep := []) (n := xs.length) (KTurns.ofWalksU (walksZR hh _ _ _ _ _ _ D xs t ys.toArray (by simpa using hl) hlen).toU) ?_ ?_ ?_ ?_ ?_ ?_ ?_ ?_ ?_ (F.keeps hk') (fun p hp => absurd hp List.not_mem_nil) trivial (rest₀ _ hRI)
  · unfold zipR
    rw [List.length_zipWith, List.length_reverse]
    show xs.cps.size = min xs.cps.toList.length _
    have hl' : xs.cps.size ≤ ys.length := hl
    simp only [Array.length_toList]
    omega
  · rintro i v h ⟨T, vals, rfl, ⟨c, y, t', h3, hx, hy, rfl⟩, hT⟩
    refine ⟨.pair (fun t => .str ⟨#[c]⟩ t) y, ?_, T, t', rfl, hT⟩
    have hy' : ys[i]? = some y := by simpa using hy
    have hilt : i < ys.length := by
      obtain ⟨q, _⟩ := List.getElem?_eq_some_iff.mp hy'
      exact q
    have hxlt : xs.length - 1 - i < xs.cps.size := by
      obtain ⟨q, _⟩ := Array.getElem?_eq_some_iff.mp hx
      exact q
    have hlx : xs.length = xs.cps.toList.length := by simp [Str.length]
    have hi2 : i < xs.cps.toList.length := by
      have : xs.length - 1 - i < xs.length := hxlt
      omega
    unfold zipR
    have hr : xs.cps.toList.reverse[i]? = some c := by
      rw [List.getElem?_reverse hi2, ← hlx]
      simpa using hx
    rw [List.getElem?_zipWith, hr, hy']
  · rintro i h ⟨hz, hTI, ⟨a, b, hTO⟩, h1, ⟨o2, ho2, hc2, _⟩, _⟩
    have e1 : ∃ o : Obj, h.get? (s.heap.objs.size + 3) = some o ∧ o.cls = .type "zip" := ⟨_, hz, rfl⟩
    have e2 : ∃ o : Obj, h.get? (s.heap.objs.size + 1) = some o ∧ o.cls = .type "tuple" := ⟨_, hTI, rfl⟩
    have e3 : ∃ o : Obj, h.get? (s.heap.objs.size + 2) = some o ∧ o.cls = .type "tuple" := ⟨_, hTO, rfl⟩
    have e4 : ∃ o : Obj, h.get? R = some o ∧ o.cls = .type "reversed" := ⟨_, h1, rfl⟩
    obtain ⟨q1, g1, k1⟩ := e1
    obtain ⟨q2, g2, k2⟩ := e2
    obtain ⟨q3, g3, k3⟩ := e3
    obtain ⟨q4, g4, k4⟩ := e4
    refine ⟨[(s.heap.objs.size + 3, q1), (s.heap.objs.size + 1, q2), (s.heap.objs.size + 2, q3), (R, q4), (s.heap.objs.size, o2)], ⟨⟨rfl, k1⟩, ⟨rfl, k2⟩, ⟨rfl, k3⟩, ⟨rfl, k4⟩, ⟨rfl, hc2⟩, trivial⟩, fun p hp => ?_⟩
    rcases List.mem_cons.mp hp with rfl | hp
    · exact g1
    rcases List.mem_cons.mp hp with rfl | hp
    · exact g2
    rcases List.mem_cons.mp hp with rfl | hp
    · exact g3
    rcases List.mem_cons.mp hp with rfl | hp
    · exact g4
    rw [List.mem_singleton.mp hp]
    exact ho2
  · intro b hb
    have hb' : b = s.heap.objs.size + 3 ∨ b = s.heap.objs.size + 1 ∨ b = s.heap.objs.size + 2 ∨ b = R ∨ b = s.heap.objs.size := by simpa using hb
    rcases hb' with rfl | rfl | rfl | rfl | rfl
    · exact ⟨by simp, ktu_new F (Nat.le_add_right _ _)⟩
    · exact ⟨by simp, ktu_new F (Nat.le_add_right _ _)⟩
    · exact ⟨by simp, ktu_new F (Nat.le_add_right _ _)⟩
    · exact ⟨by simp, hR.2.2⟩
    · exact ⟨by simp, ktu_new F (Nat.le_refl _)⟩
  · intro b hb
    have hb' : b = s.heap.objs.size + 3 ∨ b = s.heap.objs.size + 2 ∨ b = R ∨ b = s.heap.objs.size := by simpa using hb
    rcases hb' with rfl | rfl | rfl | rfl <;> simp
  · intro b hb
    have hb' : b = s.heap.objs.size + 3 ∨ b = s.heap.objs.size + 1 ∨ b = s.heap.objs.size + 2 ∨ b = R ∨ b = s.heap.objs.size ∨ b = l2 := by simpa using hb
    rcases hb' with rfl | rfl | rfl | rfl | rfl | rfl
    · exact .inl (by simp)
    · exact .inl (by simp)
    · exact .inl (by simp)
    · exact .inl (by simp)
    · exact .inl (by simp)
    · exact .inr (.inr ⟨lo, hg⟩)
  · intro hI'
    have hb' : env.locals = s.heap.objs.size + 3 ∨ env.locals = s.heap.objs.size + 1 ∨ env.locals = s.heap.objs.size + 2 ∨ env.locals = R ∨ env.locals = s.heap.objs.size ∨ env.locals = l2 := by simpa using hI'
    rcases hb' with e | e | e | e | e | e
    · exact ktu_ne 3 hLs e
    · exact ktu_ne 1 hLs e
    · exact ktu_ne 2 hLs e
    · exact hR.2.1 e.symm
    · exact Nat.ne_of_lt hLs e
    · exact absurd (Heap.lt_size hg) (Nat.not_lt.mpr (e ▸ F.above))
  · exact fun p hp => absurd hp List.not_mem_nil
  · refine ⟨hz, hTI, ⟨_, _, hTO⟩, ?_, hi2, hl2.at fun o e => hk' l2 o e⟩
    have e : (xs.length : Int) - 1 - ((0 : Nat) : Int) = (xs.length : Int) - 1 := by omega
    rw [e]
    exact hk' R _ hR.1
end
end Mine
end
section
open PySem PySem.W PySem.Calls PySem.Spec PyProof.Rows
set_option Elab.async false
set_option maxRecDepth 100000
set_option maxHeartbeats 4000000
set_option linter.unusedVariables false
namespace Mine
theorem fillK2 : PySem.Challenge.rw_ez0208_01 = PySem.Challenge.rw_ez0208_01 → (∀ P, Mine.hd.heap_39 P = Mine.hd.heap_39 P) := by k_fill; intros; rfl
noncomputable def KeysS (w : World) : List DictEntry → Prop
  | [] => True
  | e :: r => (∃ k t, e.key = .str k t ∧ e.hash = hashStr w k) ∧ KeysS w r
theorem KeysS.all {w : World} : ∀ {l : List DictEntry}, KeysS w l → ∀ e ∈ l, ∃ k t, e.key = .str k t ∧ e.hash = hashStr w k
  | _ :: _, h, e, he => by
    rcases List.mem_cons.mp he with rfl | he
    · exact h.1
    · exact KeysS.all h.2 e he
section
variable {prog : Program} {w : World} {A : Around} {E : Value → Shared → Prop} {s : Shared}
theorem mapS {h : Heap} {d : Addr} {o : Obj} {es : Array DictEntry} {ep : Nat} (ho : h.get? d = some o) (hex : o.ExactDict) (hd : o.data = .dict es ep) (hk : KeysS w es.toList) :
    h.MapOf (strKind prog w) d (fun k => findBy (strKind prog w).is es k) :=
  ⟨o, es, ep, ho, hex, hd, fun e he => by
    obtain ⟨k, t, e1, e2⟩ := hk.all e (by simpa using he)
    exact ⟨k, by rw [e1]; exact strKind_is prog w k t, e2⟩, fun _ => rfl⟩
theorem dict_sub {value slice : Expr} {d : Addr} {k : Str} {tk : Tok} {o : Obj} {es : Array DictEntry} {ep : Nat} {v : Value} {Q : Value → Shared → Prop} (ho : s.heap.get? d = some o) (hex : o.ExactDict) (hd : o.data = .dict es ep) (hk : KeysS w es.toList)
    (hv : findBy (fun k => Value.isStrOf k) es k = some v) (h : ∀ k, Q v { s with toks := k })
    (hs : subscripted slice false (.ref d) (.str k tk) = operate [.ref d, .str k tk] (getItem (.ref d) (.str k tk)) := by with_unfolding_all rfl) (hg : ∀ r, letTemporaryGo value (.ref d) r = pure () := by intro _; with_unfolding_all rfl) :
    wpAny (model prog w) A (subscriptTail value slice (.ref d) (.str k tk)) Q E s := by
  have hm := mapS (prog := prog) ho hex hd hk
  exact subscriptTail_builtin hm.typeIs slot_dict_getitem.lookup (wpAny_getItem_of (strKind_is prog w k tk) hm hv (h _)) hs hg
theorem dict_get {d : Addr} {k : Str} {tk : Tok} {o : Obj} {es : Array DictEntry} {ep : Nat} {v : Value} {Q : Option Value → Shared → Prop} (ho : s.heap.get? d = some o) (hex : o.ExactDict) (hd : o.data = .dict es ep) (hk : KeysS w es.toList)
    (hv : findBy (fun k => Value.isStrOf k) es k = some v) (h : ∀ k, Q (some v) { s with toks := k }) : wpAny (model prog w) A (dictGet d (.str k tk)) Q E s := by
  have hm := mapS (prog := prog) ho hex hd hk
  refine wpAny_dictGet_of (strKind_is prog w k tk) hm ?_
  have : findBy (strKind prog w).is es k = some v := hv
  rw [this]
  exact h _
end
def intVal : Value → Option Int
  | .int i _ => some i
  | _ => none
def Alpha (es : Array DictEntry) (p : Nat) : Prop := (findBy (fun k => Value.isStrOf k) es ⟨#[64 + p]⟩).bind intVal = some (p : Int)
theorem Alpha.get {es : Array DictEntry} {p : Nat} (h : Alpha es p) : ∃ t, findBy (fun k => Value.isStrOf k) es ⟨#[64 + p]⟩ = some (.int p t) := by
  unfold Alpha at h
  cases e : findBy (fun k => Value.isStrOf k) es ⟨#[64 + p]⟩ with
  | none => rw [e] at h; cases h
  | some v =>
    rw [e] at h
    cases v <;> first | (cases h; done) | skip
    rename_i i t
    have : i = p := by simpa [intVal] using h
    exact ⟨t, by rw [this]⟩
theorem alpha_of {w : World} {K : Frag} {h : Heap} {d : Addr} {o : Obj} {es : Array DictEntry} {ep : Nat} (X : K.In h) (k : K.lookup d = some o) (a : o.ExactDict) (b : o.data = .dict es ep) (c : KeysS w es.toList) (e : ∀ p, 1 ≤ p → p ≤ 26 → Alpha es p) :
    ∃ o es ep, h.get? d = some o ∧ o.ExactDict ∧ o.data = .dict es ep ∧ KeysS w es.toList ∧ ∀ p, 1 ≤ p → p ≤ 26 → Alpha es p := ⟨o, es, ep, X _ _ k, a, b, c, e⟩
theorem alpha {w : World} {h : Heap} (X : (Mine.hd.heap_39 w.params).In h) : ∃ o es ep, h.get? 57 = some o ∧ o.ExactDict ∧ o.data = .dict es ep ∧ KeysS w es.toList ∧ ∀ p, 1 ≤ p → p ≤ 26 → Alpha es p := by
  refine' alpha_of X ?k ?a ?b ?c ?d
  case k => k_is
  case a => exact ⟨rfl, rfl, rfl⟩
  case b => exact rfl
  case c => 
    repeat (first | exact trivial | refine And.intro ⟨_, _, rfl, rfl⟩ ?_)
  case d =>
    intro p h1 h2
    have hp : p = 1 ∨ p = 2 ∨ p = 3 ∨ p = 4 ∨ p = 5 ∨ p = 6 ∨ p = 7 ∨ p = 8 ∨ p = 9 ∨ p = 10 ∨ p = 11 ∨ p = 12 ∨ p = 13 ∨ p = 14 ∨ p = 15 ∨ p = 16 ∨ p = 17 ∨ p = 18 ∨ p = 19 ∨ p = 20 ∨ p = 21 ∨ p = 22 ∨ p = 23 ∨ p = 24 ∨ p = 25 ∨ p = 26 := by omega
    rcases hp with rfl | rfl | rfl | rfl | rfl | rfl | rfl | rfl | rfl | rfl | rfl | rfl | rfl | rfl | rfl | rfl | rfl | rfl | rfl | rfl | rfl | rfl | rfl | rfl | rfl | rfl <;> (unfold Alpha; kernel_rfl)
theorem alpha_sub {prog : Program} {w : World} {A : Around} {E : Value → Shared → Prop} {s : Shared} {h₀ : Heap} {L : Addr} {m : Str → Option Value} {value slice : Expr} {p : Nat} {tk : Tok} {Q : Value → Shared → Prop} (X : (Mine.hd.heap_39 w.params).In h₀) (F : Fr h₀ L s.heap m) (h1 : 1 ≤ p) (h2 : p ≤ 26) (h : ∀ t k, Q (.int p t) { s with toks := k })
    (hs : subscripted slice false (.ref 57) (.str ⟨#[64 + p]⟩ tk) = operate [.ref 57, .str ⟨#[64 + p]⟩ tk] (getItem (.ref 57) (.str ⟨#[64 + p]⟩ tk)) := by with_unfolding_all rfl) (hg : ∀ r, letTemporaryGo value (.ref 57) r = pure () := by intro _; with_unfolding_all rfl) :
    wpAny (model prog w) A (subscriptTail value slice (.ref 57) (.str ⟨#[64 + p]⟩ tk)) Q E s := by
  obtain ⟨o, es, ep, ho, hx, hd, hk, ha⟩ := alpha X
  obtain ⟨t, ht⟩ := (ha p h1 h2).get
  exact dict_sub (F.keep _ _ ho) hx hd hk ht (fun k => h t k) hs hg
end Mine
end
section
open PySem PySem.W PySem.Calls PySem.Spec PyProof.Rows
set_option Elab.async false
set_option linter.unusedVariables false
namespace Mine
theorem gen_pos {α : Type} {M : Model} {A : Around} {t : Sem α} {Q : α → Shared → Prop} {E : Value → Shared → Prop} {h : Heap} {g : Array GenState} {d : Drawn} {X : Nat} {os : OsState} (h0 : 0 < X) (k : ∀ tk, 0 < tk → wpAny M A t Q E ⟨h, g, d, tk, os⟩) : wpAny M A t Q E ⟨h, g, d, X, os⟩ := k X h0
end Mine
end
section
local macro_rules | `(tactic| walk_at "mine pad 0") => `(tactic| skip)
local macro_rules | `(tactic| walk_at "mine pad 1") => `(tactic| skip)
local macro_rules | `(tactic| walk_at "mine pad 2") => `(tactic| skip)
local macro_rules | `(tactic| walk_at "mine pad 3") => `(tactic| skip)
local macro_rules | `(tactic| walk_at "mine pad 4") => `(tactic| skip)
local macro_rules | `(tactic| walk_at "mine pad 5") => `(tactic| skip)
local macro_rules | `(tactic| walk_at "mine pad 6") => `(tactic| skip)
local macro_rules | `(tactic| walk_at "mine pad 7") => `(tactic| skip)
local macro_rules | `(tactic| walk_at "mine pad 8") => `(tactic| skip)
local macro_rules | `(tactic| walk_at "mine pad 9") => `(tactic| skip)
local macro_rules | `(tactic| walk_at "mine pad 10") => `(tactic| skip)
local macro_rules | `(tactic| walk_at "mine pad 11") => `(tactic| skip)
local macro_rules | `(tactic| walk_at "mine pad 12") => `(tactic| skip)
local macro_rules | `(tactic| walk_at "mine pad 13") => `(tactic| skip)
open PySem PySem.W PySem.Calls PySem.Spec PyProof.Rows
set_option Elab.async false
set_option maxRecDepth 100000
set_option maxHeartbeats 4000000
set_option linter.unusedVariables false
namespace Mine
section
variable {prog : Program} {w : World} {A : Around} {E : Value → Shared → Prop} {s : Shared} {h₀ : Heap} {L : Addr} {m : Str → Option Value} {news : List (Addr × Obj)}
theorem up_rule {x : Str} {t : Tok} {U : Array Nat} {Q : Value → Shared → Prop} (hl : x.length ≤ 1000) (hA : ∀ c ∈ x.cps.toList, c < 128) (hU : x.cps.map up1 = U) (h : ∀ t' k, Q (.str ⟨U⟩ t') { s with toks := k }) :
    wpAny (model prog w) A (call (.builtin "str.upper") [.str x t]) Q E s := by
  subst hU
  refine SCL.upper (by omega) fun _ => ?_
  rw [upper_ascii hA]
  exact h _ _
theorem up_1 {x : Str} {t : Tok} {a p : Nat} {Q : Value → Shared → Prop} (hx : x = ⟨#[a]⟩) (h1 : a < 128) (e1 : up1 a = 64 + p) (h : ∀ t' k, Q (.str ⟨#[64 + p]⟩ t') { s with toks := k }) :
    wpAny (model prog w) A (call (.builtin "str.upper") [.str x t]) Q E s := by
  subst hx
  exact up_rule (by show 1 ≤ 1000; decide) (by intro c hc; simp at hc; omega) (by simp [e1]) h
theorem up_2 {x : Str} {t : Tok} {a b p q : Nat} {Q : Value → Shared → Prop} (hx : x = ⟨#[a, b]⟩) (h1 : a < 128) (h2 : b < 128) (e1 : up1 a = 64 + p) (e2 : up1 b = 64 + q) (h : ∀ t' k, Q (.str ⟨#[64 + p, 64 + q]⟩ t') { s with toks := k }) :
    wpAny (model prog w) A (call (.builtin "str.upper") [.str x t]) Q E s := by
  subst hx
  exact up_rule (by show 2 ≤ 1000; decide) (by intro c hc; simp at hc; omega) (by simp [e1, e2]) h
theorem up_3 {x : Str} {t : Tok} {a b c p q r : Nat} {Q : Value → Shared → Prop} (hx : x = ⟨#[a, b, c]⟩) (h1 : a < 128) (h2 : b < 128) (h3 : c < 128) (e1 : up1 a = 64 + p) (e2 : up1 b = 64 + q) (e3 : up1 c = 64 + r) (h : ∀ t' k, Q (.str ⟨#[64 + p, 64 + q, 64 + r]⟩ t') { s with toks := k }) :
    wpAny (model prog w) A (call (.builtin "str.upper") [.str x t]) Q E s := by
  subst hx
  exact up_rule (by show 3 ≤ 1000; decide) (by intro c hc; simp at hc; omega) (by simp [e1, e2, e3]) h
theorem rev_rule {x : Str} {t : Tok} {Q : Value → Shared → Prop} (F : Fr h₀ L s.heap m) (N : News h₀ L s.heap news) (hx : x.length ≤ 1000)
    (h : ∀ D h' k, Fr h₀ L h' m → News h₀ L h' ((D, revS x t ((x.length : Int) - 1)) :: news) → (∀ q ∈ news, q.1 < D) → Q (.ref D) { s with heap := h', toks := k }) : wpAny (model prog w) A (call (.type "reversed") [.str x t]) Q E s :=
  call_rev_str hx fun k => h _ _ k (F.push _) (News.push F N _) fun q hq => Heap.lt_size (N q hq).1
end
local macro_rules | `(tactic| walk_at "call builtin:str.upper") => `(tactic| ((with_reducible show wpAny _ _ (call (Value.builtin "str.upper") [Value.str _ _]) _ _ _); (first | k_dflt (refine up_1 (by assumption) (by assumption) (by assumption) ?_) | k_dflt (refine up_2 (by assumption) (by assumption) (by assumption) (by assumption) (by assumption) ?_) | k_dflt (refine up_3 (by assumption) (by assumption) (by assumption) (by assumption) (by assumption) (by assumption) (by assumption) ?_)); intro t' k'))
local macro_rules | `(tactic| walk_at "call type:reversed") => `(tactic| ((with_reducible show wpAny _ _ (call (Value.type _) [Value.str _ _]) _ _ _); k_dflt (refine' rev_rule ?a ?b ?c ?_; (case a => k_asm); (case b => k_asm); (case c => exact Nat.le_of_ble_eq_true rfl)); intro D' h' k' F' N' l1; (try k_lt l1)))
theorem nil3 {M : Model} {A : Around} {E : Value → Shared → Prop} {s : Shared} {a x b : Str} {Q : Value → Shared → Prop} (hx : x.length ≤ 1000) (ha : a.length ≤ 100) (hb : b.length ≤ 100) (h : ∀ t k, Q (.str (((Str.empty ++ a) ++ x) ++ b) t) { s with toks := k }) : wpAny M A (joinParts (((Str.empty ++ a) ++ x) ++ b) []) Q E s := by
  refine joinParts_nil (h _ _) ?_
  rw [Str.length_append, Str.length_append, Str.length_append]
  have : Str.empty.length = 0 := rfl
  exact Nat.le_trans (show _ ≤ 2000 by omega) (by decide)
local macro_rules | `(tactic| walk_at "exec For Tuple Call cons nil") => `(tactic| ((rename Fr _ _ _ _ => lF'); (with_unfolding_all refine' For_turns lF' ?_; k_whole)))
local macro_rules | `(tactic| walk_at "subscriptTail") => `(tactic| ((with_reducible show wpAny _ _ (subscriptTail _ _ (Value.ref _) (Value.str _ _)) _ _ _); k_dflt (refine alpha_sub (by assumption) (by k_asm) (by omega) (by omega) ?_); intro t' k'))
local macro_rules | `(tactic| walk_at "call type:zip") => `(tactic| ((with_reducible show wpAny _ _ (call (Value.type _) [Value.ref _, Value.ref _]) (fun xv s₁ => wpAny _ _ (pyIter xv) (fun it s₂ => TurnsAt _ _ _ _ _ _ _ _ _ it s₂) _ s₁) _ _); (rename Fr _ _ _ _ => lF'); (rename News _ _ _ _ => lN'); k_dflt (with_unfolding_all refine' zipR_turns ?a ?b ?c ?d ?e ?f ?g ?h ?i ?j ?_; (case a => rfl); (case b => exact lF'); (case c => exact lN'); (case d => k_asm); (case e => k_is); (case f => exact rfl); (case g => exact rfl); (case h => exact Nat.le_of_ble_eq_true rfl); (case i => exact Nat.le_of_ble_eq_true rfl); (case j => exact rfl)); clear lF' lN'; intro i' l1))
theorem sz3 {a x b : Str} (hx : x.length ≤ 1000) (ha : a.length ≤ 100) (hb : b.length ≤ 100) : (((Str.empty ++ a) ++ x) ++ b).length ≤ sizeLine := by
  rw [Str.length_append, Str.length_append, Str.length_append]
  have : Str.empty.length = 0 := rfl
  exact Nat.le_trans (show _ ≤ 2000 by omega) (by decide)
local macro_rules | `(tactic| walk_at "And") => `(tactic| ((with_reducible show PySem.Str.length (((_ ++ _) ++ _) ++ _) ≤ sizeLine ∧ wpAny _ _ (joinParts _ _) _ _ _); refine ⟨sz3 (by omega) (by decide +kernel) (by decide +kernel), ?_⟩))
local macro_rules | `(tactic| walk_at "joinParts") => `(tactic| ((first | (with_reducible show wpAny _ _ (joinParts _ []) _ _ _) | (with_reducible show wpAny _ _ (joinParts _ (evalEach [] _)) _ _ _)); k_dflt (refine' nil3 ?a ?b ?c ?_; (case a => omega); (case b => decide +kernel); (case c => decide +kernel)); intro t' k'))
local macro_rules | `(tactic| kt_len) => `(tactic| (with_reducible assumption))
local macro_rules | `(tactic| walk_at "execs nil") => `(tactic| (k_here; (refine gen_pos (by omega) ?_); intro tk' tp'; (with_reducible refine wpAny_execs_nil ?_); try dsimp only))
local macro_rules | `(tactic| walk_at "execs cons") => `(tactic| (k_here; (refine gen_pos (by omega) ?_); intro tk' tp'; (with_reducible refine wpAny_execs_cons ?_); try dsimp only))
theorem ci1 : ∀ {w : World} {mg mb : Str → Option Value} {d u : Nat} {fr : Option (List Env)} {gd : Option (List Code)} {s : Shared} {Q E : Value → Shared → Prop} {tm : Tok} {x : Str} {a p : Nat}
    (X : (Mine.hd.heap_39 w.params).In s.heap) (T : TopRead Mine.hd.view_39 LO mg mb s.heap)
    (hd : d + 8 < recursionLimit) (hu : u + 60 < cLine) (hx : x = ⟨#[a]⟩) (hxl : x.length ≤ 3) (ha : a < 128) (hp : up1 a = 64 + p) (hp1 : 1 ≤ p) (hp2 : p ≤ 26) (hle : (p : Int) < 18279)
    (ret : ∀ h' tk' t' (n : Int), 0 < tk' → Ext s.heap h' → n = p → Q (.int n t') { s with heap := h', toks := tk' }),
    wpAny (model PySem.Challenge.rw_ez0208_01.row.prog w) ⟨none, d, fr, gd, u⟩ (call (.ref 66) [.str x tm] []) Q E s := by
  k_fill
  intro w mg mb d u fr gd s Q E tm x a p X T hd hu hx hxl ha hp hp1 hp2 hle ret
  k_dflt (refine' enterK (args := ⟨[.str x tm], []⟩) X T ?k1 ?k2 ?k3 ?k4 ?k5 ?_ ?c1 ?c2 ?c3 ?c4; (case k1 => k_is); (case k2 => k_is); (case k3 => (dsimp only; omega)); (case k4 => exact BindsTo.of_eq rfl); (case k5 => exact locs rfl); (case c1 => rfl); (case c2 => rfl); (case c3 => rfl); (case c4 => decide); k_whole)
  intro L' h' F' N'
  (try dsimp only)
  (try k_fold)
  k_steps
  all_goals (
    (with_reducible rename Fr _ _ _ _ => F9)
    (try dsimp only [qk])
    (try dsimp only)
    refine ret _ _ _ _ ?_ (fun b o e => F9.keep b o e) ?_ <;> omega)
theorem ci2 : ∀ {w : World} {mg mb : Str → Option Value} {d u : Nat} {fr : Option (List Env)} {gd : Option (List Code)} {s : Shared} {Q E : Value → Shared → Prop} {tm : Tok} {x : Str} {a b p q : Nat}
    (X : (Mine.hd.heap_39 w.params).In s.heap) (T : TopRead Mine.hd.view_39 LO mg mb s.heap)
    (hd : d + 8 < recursionLimit) (hu : u + 60 < cLine) (hx : x = ⟨#[a, b]⟩) (hxl : x.length ≤ 3) (ha : a < 128) (hb : b < 128) (hp : up1 a = 64 + p) (hq : up1 b = 64 + q) (hp1 : 1 ≤ p) (hp2 : p ≤ 26) (hq1 : 1 ≤ q) (hq2 : q ≤ 26) (hle : (26 * p + q : Int) < 18279)
    (ret : ∀ h' tk' t' (n : Int), 0 < tk' → Ext s.heap h' → n = 26 * p + q → Q (.int n t') { s with heap := h', toks := tk' }),
    wpAny (model PySem.Challenge.rw_ez0208_01.row.prog w) ⟨none, d, fr, gd, u⟩ (call (.ref 66) [.str x tm] []) Q E s := by
  k_fill
  intro w mg mb d u fr gd s Q E tm x a b p q X T hd hu hx hxl ha hb hp hq hp1 hp2 hq1 hq2 hle ret
  k_dflt (refine' enterK (args := ⟨[.str x tm], []⟩) X T ?k1 ?k2 ?k3 ?k4 ?k5 ?_ ?c1 ?c2 ?c3 ?c4; (case k1 => k_is); (case k2 => k_is); (case k3 => (dsimp only; omega)); (case k4 => exact BindsTo.of_eq rfl); (case k5 => exact locs rfl); (case c1 => rfl); (case c2 => rfl); (case c3 => rfl); (case c4 => decide); k_whole)
  intro L' h' F' N'
  (try dsimp only)
  (try k_fold)
  k_steps
  all_goals (
    (with_reducible rename Fr _ _ _ _ => F9)
    (try dsimp only [qk])
    (try dsimp only)
    refine ret _ _ _ _ ?_ (fun b o e => F9.keep b o e) ?_ <;> omega)
theorem ci3 : ∀ {w : World} {mg mb : Str → Option Value} {d u : Nat} {fr : Option (List Env)} {gd : Option (List Code)} {s : Shared} {Q E : Value → Shared → Prop} {tm : Tok} {x : Str} {a b c p q r : Nat}
    (X : (Mine.hd.heap_39 w.params).In s.heap) (T : TopRead Mine.hd.view_39 LO mg mb s.heap)
    (hd : d + 8 < recursionLimit) (hu : u + 60 < cLine) (hx : x = ⟨#[a, b, c]⟩) (hxl : x.length ≤ 3) (ha : a < 128) (hb : b < 128) (hc : c < 128) (hp : up1 a = 64 + p) (hq : up1 b = 64 + q) (hr : up1 c = 64 + r) (hp1 : 1 ≤ p) (hp2 : p ≤ 26) (hq1 : 1 ≤ q) (hq2 : q ≤ 26) (hr1 : 1 ≤ r) (hr2 : r ≤ 26) (hle : (676 * p + 26 * q + r : Int) < 18279)
    (ret : ∀ h' tk' t' (n : Int), 0 < tk' → Ext s.heap h' → n = 676 * p + 26 * q + r → Q (.int n t') { s with heap := h', toks := tk' }),
    wpAny (model PySem.Challenge.rw_ez0208_01.row.prog w) ⟨none, d, fr, gd, u⟩ (call (.ref 66) [.str x tm] []) Q E s := by
  k_fill
  intro w mg mb d u fr gd s Q E tm x a b c p q r X T hd hu hx hxl ha hb hc hp hq hr hp1 hp2 hq1 hq2 hr1 hr2 hle ret
  k_dflt (refine' enterK (args := ⟨[.str x tm], []⟩) X T ?k1 ?k2 ?k3 ?k4 ?k5 ?_ ?c1 ?c2 ?c3 ?c4; (case k1 => k_is); (case k2 => k_is); (case k3 => (dsimp only; omega)); (case k4 => exact BindsTo.of_eq rfl); (case k5 => exact locs rfl); (case c1 => rfl); (case c2 => rfl); (case c3 => rfl); (case c4 => decide); k_whole)
  intro L' h' F' N'
  (try dsimp only)
  (try k_fold)
  k_steps
  all_goals (
    (with_reducible rename Fr _ _ _ _ => F9)
    (try dsimp only [qk])
    (try dsimp only)
    refine ret _ _ _ _ ?_ (fun b o e => F9.keep b o e) ?_ <;> omega)
end Mine
end
section
open PySem PySem.W PySem.Calls PySem.Spec PyProof.Rows
set_option Elab.async false
set_option maxRecDepth 100000
set_option maxHeartbeats 4000000
set_option linter.unusedVariables false
namespace Mine
def ColOf (x : Str) (c : Int) : Prop := c < 18279 ∧ ((∃ a p : Nat, x = ⟨#[a]⟩ ∧ a < 128 ∧ up1 a = 64 + p ∧ 1 ≤ p ∧ p ≤ 26 ∧ c = p) ∨
  (∃ a b p q : Nat, x = ⟨#[a, b]⟩ ∧ a < 128 ∧ b < 128 ∧ up1 a = 64 + p ∧ up1 b = 64 + q ∧ 1 ≤ p ∧ p ≤ 26 ∧ 1 ≤ q ∧ q ≤ 26 ∧ c = 26 * p + q) ∨
  (∃ a b e p q r : Nat, x = ⟨#[a, b, e]⟩ ∧ a < 128 ∧ b < 128 ∧ e < 128 ∧ up1 a = 64 + p ∧ up1 b = 64 + q ∧ up1 e = 64 + r ∧ 1 ≤ p ∧ p ≤ 26 ∧ 1 ≤ q ∧ q ≤ 26 ∧ 1 ≤ r ∧ r ≤ 26 ∧ c = 676 * p + 26 * q + r))
theorem ci_c {w : World} {mg mb : Str → Option Value} {d u : Nat} {fr : Option (List Env)} {gd : Option (List Code)} {s : Shared} {Q E : Value → Shared → Prop} {tm : Tok} {x : Str} {c : Int}
    (X : (Mine.hd.heap_39 w.params).In s.heap) (T : TopRead Mine.hd.view_39 LO mg mb s.heap)
    (hd : d + 8 < recursionLimit) (hu : u + 60 < cLine) (hc : ColOf x c)
    (ret : ∀ h' tk' t', 0 < tk' → Ext s.heap h' → Q (.int c t') { s with heap := h', toks := tk' }) :
    wpAny (model PySem.Challenge.rw_ez0208_01.row.prog w) ⟨none, d, fr, gd, u⟩ (call (.ref 66) [.str x tm] []) Q E s := by
  obtain ⟨hlt, ⟨a, p, hx, ha, hp, hp1, hp2, e⟩ | ⟨a, b, p, q, hx, ha, hb, hp, hq, hp1, hp2, hq1, hq2, e⟩ | ⟨a, b, e', p, q, r, hx, ha, hb, he, hp, hq, hr, hp1, hp2, hq1, hq2, hr1, hr2, e⟩⟩ := hc
  · exact ci1 X T hd hu hx (by rw [hx]; show 1 ≤ 3; decide) ha hp hp1 hp2 (by omega) fun h' tk' t' n h0 h1 h2 => by rw [h2, ← e]; exact ret h' tk' t' h0 h1
  · exact ci2 X T hd hu hx (by rw [hx]; show 2 ≤ 3; decide) ha hb hp hq hp1 hp2 hq1 hq2 (by omega) fun h' tk' t' n h0 h1 h2 => by rw [h2, ← e]; exact ret h' tk' t' h0 h1
  · exact ci3 X T hd hu hx (by rw [hx]; show 3 ≤ 3; decide) ha hb he hp hq hr hp1 hp2 hq1 hq2 hr1 hr2 (by omega) fun h' tk' t' n h0 h1 h2 => by rw [h2, ← e]; exact ret h' tk' t' h0 h1
theorem ColOf.size {x : Str} {c : Int} (h : ColOf x c) : 1 ≤ x.cps.size ∧ x.cps.size ≤ 3 := by
  obtain ⟨_, ⟨a, p, rfl, _⟩ | ⟨a, b, p, q, rfl, _⟩ | ⟨a, b, e', p, q, r, rfl, _⟩⟩ := h <;> simp
theorem ext_in {K : Frag} {h h' : Heap} (X : K.In h) (e : Ext h h') : K.In h' := fun b o q => e _ _ (X b o q)
theorem ext_read {p : Program} {loose : List Str} {mg mb : Str → Option Value} {h h' : Heap} (T : TopRead p loose mg mb h) (e : Ext h h') : TopRead p loose mg mb h' := by
  obtain ⟨mc, h1, h2⟩ := T.nolimit
  exact ⟨T.g.at' fun o q => e _ o q, T.b.at' fun o q => e _ o q, ⟨mc, h1.at' fun o q => e _ o q, h2⟩, T.builtins, T.free⟩
theorem fr_ext {h₀ h : Heap} {L : Addr} {m : Str → Option Value} (F : Fr h₀ L h m) : Ext h₀ h := fun b o e => F.keep b o e
end Mine
end
section
open PySem PySem.W PySem.Calls PySem.Spec PyProof.Rows
set_option Elab.async false
set_option maxRecDepth 100000
set_option maxHeartbeats 4000000
set_option linter.unusedVariables false
namespace Mine
theorem draw_c {w : World} {mg mb : Str → Option Value} {A : Around} {s : Shared} {Q E : Value → Shared → Prop} {h₀ : Heap} {L : Addr} {m : Str → Option Value} {news : List (Addr × Obj)} {g : Obj → List (Addr × Obj)} {st sl : Addr} {i x many : Int} {t1 t2 tm : Tok} {n : Nat} {vs : List Value} {ns : List Int}
    (X : (Mine.hd.heap_39 w.params).In h₀) (T : TopRead Mine.hd.view_39 LO mg mb h₀) (F : Fr h₀ L s.heap m) (N : News h₀ L s.heap news) (U : UpdF st (stObj sl i x t1 t2 n) news g)
    (hd : A.depth + 8 < recursionLimit) (hu : A.units + 60 < cLine)
    (hst : 133 ≤ st) (hsl : s.heap.IsList sl vs.toArray) (hin : IntsAre vs ns) (hne : sl ≠ st) (hlen : ns.length ≤ 63) (hi0 : 0 ≤ i) (hi1 : i ≤ 63) (hx0 : 0 ≤ x) (hx1 : x < 2147483647)
    (hm0 : 0 < many) (hm1 : many ≤ 12)
    (ret : ∀ h' tk' t' r i' x' t1' t2' n', Fr h₀ L h' m → News h₀ L h' (g (stObj sl i' x' t1' t2' n')) → h'.IsList sl vs.toArray → 0 ≤ i' → i' ≤ 63 → 0 ≤ x' → x' < 2147483647 → 0 ≤ r → r < many → Q (.int r t') { s with heap := h', toks := tk' }) :
    wpAny (model PySem.Challenge.rw_ez0208_01.row.prog w) A (call (.ref 106) [.ref st, .int many tm] []) Q E s := by
  obtain ⟨pre, post, e1, e2, c1, c2⟩ := U.split
  subst e1
  have hm := N _ (List.mem_append_right _ (.head _))
  refine next_c (ext_in X (fr_ext F)) (ext_read T (fr_ext F)) hd hu hst hm.1 hsl hin hne hlen hi0 hi1 hx0 hx1 hm0 hm1 fun h' tk' t' r i' x' t1' t2' n' hk hs b1 b2 b3 b4 b5 b6 => ?_
  refine ret h' tk' t' r i' x' t1' t2' n' ?_ ?_ ?_ b1 b2 b3 b4 b5 b6
  · refine ⟨F.ns.at' fun o e => hk _ _ (fun q => hm.2.1 q.symm) e, fun b o e => hk _ _ (fun q => ?_) (F.keep b o e), F.above⟩
    rw [q, hm.2.2] at e; cases e
  · rw [e2]
    intro p hp
    rcases List.mem_append.mp hp with hp | hp
    · have := N p (List.mem_append_left _ hp)
      exact ⟨hk _ _ (c1 p hp) this.1, this.2⟩
    · rcases List.mem_cons.mp hp with rfl | hp
      · exact ⟨hs, hm.2⟩
      · have := N p (List.mem_append_right _ (.tail _ hp))
        exact ⟨hk _ _ (c2 p hp) this.1, this.2⟩
  · obtain ⟨o, ho, r⟩ := hsl
    exact ⟨o, hk _ _ hne ho, r⟩
end Mine
end
section
open PySem PySem.W PySem.Calls PySem.Spec PyProof.Rows
set_option Elab.async false
set_option maxRecDepth 100000
set_option maxHeartbeats 4000000
set_option linter.unusedVariables false
namespace Mine
theorem IsList_keep {h h' : Heap} {a : Addr} {items : Array Value} (x : h.IsList a items) (e : Ext h h') : h'.IsList a items := let ⟨o, ho, r⟩ := x; ⟨o, e _ _ ho, r⟩
theorem upS_len {c : Int} (h : IsC c) : (upS c).length ≤ 3 := by
  rcases h with rfl | rfl | rfl | rfl | rfl | rfl | rfl | rfl | rfl | rfl | rfl | rfl <;> decide +kernel
theorem lower_b {prog : Program} {w : World} {A : Around} {E : Value → Shared → Prop} {s : Shared} {x : Str} {t : Tok} {Q : Value → Shared → Prop} (hx : x.length ≤ 3) (h : ∀ t' k, (Txt.lower x).length ≤ 9 → Q (.str (Txt.lower x) t') { s with toks := k }) : wpAny (model prog w) A (call (.builtin "str.lower") [.str x t]) Q E s :=
  SCL.lower (by omega) fun hl => h _ _ (by omega)
local macro_rules | `(tactic| kt_len) => `(tactic| (with_reducible assumption))
local macro_rules | `(tactic| walk_at "call builtin:str.lower") => `(tactic| (k_dflt (refine lower_b (by assumption) ?_); intro t' k' hl'))
theorem two {r : Int} (a : 0 ≤ r) (b : r < 2) : r = 0 ∨ r = 1 := by omega
local macro_rules | `(tactic| walk_at "call ref") => `(tactic| ((with_reducible show wpAny _ _ (call (Value.ref 113) [Value.int _ _] _) _ _ _); (rename Fr _ _ _ _ => lF'); (rename News _ _ _ _ => lN'); k_dflt (refine' letters_c ?a ?b ?c ?d ?e ?_; (case a => exact ext_in (by assumption) (fr_ext lF')); (case b => exact ext_read (by assumption) (fr_ext lF')); (case c => (dsimp only [Around.deeper]; omega)); (case d => (dsimp only [Around.deeper]; omega)); (case e => assumption)); intro h' tk' t' x'; (have F' := Fr.keeps lF' x'); (have N' := News.grown lN' x'); clear lF' lN' x'))
local macro_rules | `(tactic| walk_at "call ref") => `(tactic| ((with_reducible show wpAny _ _ (call (Value.ref 106) [Value.ref _, Value.int _ _] _) _ _ _); (rename Fr _ _ _ _ => lF'); (rename News _ _ _ _ => lN'); k_dflt (refine draw_c (by assumption) (by assumption) lF' lN' (by k_updF) (by (dsimp only [Around.deeper]; omega)) (by (dsimp only [Around.deeper]; omega)) (by assumption) (IsList_keep (by assumption) (fr_ext lF')) (by assumption) (by assumption) (by assumption) (by assumption) (by assumption) (by assumption) (by assumption) (by decide) (by decide) ?_); intro h' tk' t' r' i' x' t1' t2' n' F' N' hl' b1 b2 b3 b4 b5 b6; clear lF' lN' hl'; (try dsimp only at N'); (rcases two b5 b6 with e' | e' <;> subst e')))
def PartLR (y : Str) (c r : Int) : Prop := ∃ (d1 d2 l : Str), (d1 = Str.ofString "$" ∨ d1 = Str.ofString "") ∧ (d2 = Str.ofString "$" ∨ d2 = Str.ofString "") ∧ (l = upS c ∨ l = Txt.lower (upS c)) ∧ y = ((d1 ++ l) ++ d2) ++ Str.ofString (toString r)
def PartL (y : Str) (c : Int) : Prop := ∃ (d1 l : Str), (d1 = Str.ofString "$" ∨ d1 = Str.ofString "") ∧ (l = upS c ∨ l = Txt.lower (upS c)) ∧ y = d1 ++ l
def PartR (y : Str) (r : Int) : Prop := ∃ (d2 : Str), (d2 = Str.ofString "$" ∨ d2 = Str.ofString "") ∧ y = (Str.ofString "" ++ d2) ++ Str.ofString (toString r)
theorem part_lr : ∀ {w : World} {mg mb : Str → Option Value} {d u : Nat} {fr : Option (List Env)} {gd : Option (List Code)} {s : Shared} {Q E : Value → Shared → Prop} {st sl : Addr} {i x c r : Int} {t1 t2 tc tr : Tok} {n : Nat} {vs : List Value} {ns : List Int}
    (X : (Mine.hd.heap_39 w.params).In s.heap) (T : TopRead Mine.hd.view_39 LO mg mb s.heap)
    (hd : d + 16 < recursionLimit) (hu : u + 200 < cLine)
    (hst : 133 ≤ st) (ho : s.heap.get? st = some (stObj sl i x t1 t2 n)) (hsl : s.heap.IsList sl vs.toArray) (hin : IntsAre vs ns) (hne : sl ≠ st) (hlen : ns.length ≤ 63) (hi0 : 0 ≤ i) (hi1 : i ≤ 63) (hx0 : 0 ≤ x) (hx1 : x < 2147483647)
    (hc : IsC c) (hcl : (upS c).length ≤ 3) (hr1 : 1 ≤ r) (hr2 : r ≤ 15)
    (ret : ∀ h' tk' t' y i' x' t1' t2' n', (∀ b o, b ≠ st → s.heap.get? b = some o → h'.get? b = some o) → h'.get? st = some (stObj sl i' x' t1' t2' n') → 0 ≤ i' → i' ≤ 63 → 0 ≤ x' → x' < 2147483647 → PartLR y c r → Q (.str y t') { s with heap := h', toks := tk' }),
    wpAny (model PySem.Challenge.rw_ez0208_01.row.prog w) ⟨none, d, fr, gd, u⟩ (call (.ref 120) [.ref st, .int c tc, .int r tr] []) Q E s := by
  k_fill
  intro w mg mb d u fr gd s Q E st sl i x c r t1 t2 tc tr n vs ns X T hd hu hst ho hsl hin hne hlen hi0 hi1 hx0 hx1 hc hcl hr1 hr2 ret
  k_dflt (refine' enterK (args := ⟨[.ref st, .int c tc, .int r tr], []⟩) X T ?k1 ?k2 ?k3 ?k4 ?k5 ?_ ?c1 ?c2 ?c3 ?c4; (case k1 => k_is); (case k2 => k_is); (case k3 => (dsimp only; omega)); (case k4 => exact BindsTo.of_eq rfl); (case k5 => exact locs rfl); (case c1 => rfl); (case c2 => rfl); (case c3 => rfl); (case c4 => decide); k_whole)
  intro L' h' F₀ _
  have hL : st ≠ L' := Nat.ne_of_lt (Nat.lt_of_lt_of_le (Heap.lt_size ho) F₀.above)
  have F' := hide_fr (a := st) F₀
  have N' : News (s.heap.hide st) L' h' [(st, stObj sl i x t1 t2 n)] := fun p hp => by
    obtain rfl := List.mem_singleton.mp hp
    exact ⟨F₀.keep _ _ ho, hL, Heap.hide_self _ _⟩
  have X' := hide_in (a := st) X (fun b o e => low_ne (klow b o e) hst)
  have T' := hide_read (a := st) T hst
  have hsl' : (s.heap.hide st).IsList sl vs.toArray := let ⟨o, e, r⟩ := hsl; ⟨o, (Heap.hide_ne _ hne).trans e, r⟩
  clear X T hsl F₀ ho
  (try dsimp only)
  (try k_fold)
  k_steps
  all_goals (
    (with_reducible rename Fr _ _ _ _ => F9)
    (with_reducible rename News _ _ _ _ => N9)
    (try dsimp only [qk])
    (try dsimp only)
    refine ret _ _ _ _ _ _ _ _ _ (fun b o hb e => F9.keep b o ((Heap.hide_ne _ hb).trans e)) (N9.get (by k_mem)) (by omega) (by omega) (by omega) (by omega) ?_
    exact ⟨_, _, _, (by with_reducible first | exact .inl rfl | exact .inr rfl), (by with_reducible first | exact .inl rfl | exact .inr rfl), (by with_reducible first | exact .inl rfl | exact .inr rfl), rfl⟩)
theorem part_l : ∀ {w : World} {mg mb : Str → Option Value} {d u : Nat} {fr : Option (List Env)} {gd : Option (List Code)} {s : Shared} {Q E : Value → Shared → Prop} {st sl : Addr} {i x c : Int} {t1 t2 tc : Tok} {n : Nat} {vs : List Value} {ns : List Int}
    (X : (Mine.hd.heap_39 w.params).In s.heap) (T : TopRead Mine.hd.view_39 LO mg mb s.heap)
    (hd : d + 16 < recursionLimit) (hu : u + 200 < cLine)
    (hst : 133 ≤ st) (ho : s.heap.get? st = some (stObj sl i x t1 t2 n)) (hsl : s.heap.IsList sl vs.toArray) (hin : IntsAre vs ns) (hne : sl ≠ st) (hlen : ns.length ≤ 63) (hi0 : 0 ≤ i) (hi1 : i ≤ 63) (hx0 : 0 ≤ x) (hx1 : x < 2147483647)
    (hc : IsC c) (hcl : (upS c).length ≤ 3)
    (ret : ∀ h' tk' t' y i' x' t1' t2' n', (∀ b o, b ≠ st → s.heap.get? b = some o → h'.get? b = some o) → h'.get? st = some (stObj sl i' x' t1' t2' n') → 0 ≤ i' → i' ≤ 63 → 0 ≤ x' → x' < 2147483647 → PartL y c → Q (.str y t') { s with heap := h', toks := tk' }),
    wpAny (model PySem.Challenge.rw_ez0208_01.row.prog w) ⟨none, d, fr, gd, u⟩ (call (.ref 120) [.ref st, .int c tc, .none] []) Q E s := by
  k_fill
  intro w mg mb d u fr gd s Q E st sl i x c t1 t2 tc n vs ns X T hd hu hst ho hsl hin hne hlen hi0 hi1 hx0 hx1 hc hcl ret
  k_dflt (refine' enterK (args := ⟨[.ref st, .int c tc, .none], []⟩) X T ?k1 ?k2 ?k3 ?k4 ?k5 ?_ ?c1 ?c2 ?c3 ?c4; (case k1 => k_is); (case k2 => k_is); (case k3 => (dsimp only; omega)); (case k4 => exact BindsTo.of_eq rfl); (case k5 => exact locs rfl); (case c1 => rfl); (case c2 => rfl); (case c3 => rfl); (case c4 => decide); k_whole)
  intro L' h' F₀ _
  have hL : st ≠ L' := Nat.ne_of_lt (Nat.lt_of_lt_of_le (Heap.lt_size ho) F₀.above)
  have F' := hide_fr (a := st) F₀
  have N' : News (s.heap.hide st) L' h' [(st, stObj sl i x t1 t2 n)] := fun p hp => by
    obtain rfl := List.mem_singleton.mp hp
    exact ⟨F₀.keep _ _ ho, hL, Heap.hide_self _ _⟩
  have X' := hide_in (a := st) X (fun b o e => low_ne (klow b o e) hst)
  have T' := hide_read (a := st) T hst
  have hsl' : (s.heap.hide st).IsList sl vs.toArray := let ⟨o, e, r⟩ := hsl; ⟨o, (Heap.hide_ne _ hne).trans e, r⟩
  clear X T hsl F₀ ho
  (try dsimp only)
  (try k_fold)
  k_steps
  all_goals (
    (with_reducible rename Fr _ _ _ _ => F9)
    (with_reducible rename News _ _ _ _ => N9)
    (try dsimp only [qk])
    (try dsimp only)
    refine ret _ _ _ _ _ _ _ _ _ (fun b o hb e => F9.keep b o ((Heap.hide_ne _ hb).trans e)) (N9.get (by k_mem)) (by omega) (by omega) (by omega) (by omega) ?_
    exact ⟨_, _, (by with_reducible first | exact .inl rfl | exact .inr rfl), (by with_reducible first | exact .inl rfl | exact .inr rfl), rfl⟩)
theorem part_r : ∀ {w : World} {mg mb : Str → Option Value} {d u : Nat} {fr : Option (List Env)} {gd : Option (List Code)} {s : Shared} {Q E : Value → Shared → Prop} {st sl : Addr} {i x r : Int} {t1 t2 tr : Tok} {n : Nat} {vs : List Value} {ns : List Int}
    (X : (Mine.hd.heap_39 w.params).In s.heap) (T : TopRead Mine.hd.view_39 LO mg mb s.heap)
    (hd : d + 16 < recursionLimit) (hu : u + 200 < cLine)
    (hst : 133 ≤ st) (ho : s.heap.get? st = some (stObj sl i x t1 t2 n)) (hsl : s.heap.IsList sl vs.toArray) (hin : IntsAre vs ns) (hne : sl ≠ st) (hlen : ns.length ≤ 63) (hi0 : 0 ≤ i) (hi1 : i ≤ 63) (hx0 : 0 ≤ x) (hx1 : x < 2147483647)
    (hr1 : 1 ≤ r) (hr2 : r ≤ 15)
    (ret : ∀ h' tk' t' y i' x' t1' t2' n', (∀ b o, b ≠ st → s.heap.get? b = some o → h'.get? b = some o) → h'.get? st = some (stObj sl i' x' t1' t2' n') → 0 ≤ i' → i' ≤ 63 → 0 ≤ x' → x' < 2147483647 → PartR y r → Q (.str y t') { s with heap := h', toks := tk' }),
    wpAny (model PySem.Challenge.rw_ez0208_01.row.prog w) ⟨none, d, fr, gd, u⟩ (call (.ref 120) [.ref st, .none, .int r tr] []) Q E s := by
  k_fill
  intro w mg mb d u fr gd s Q E st sl i x r t1 t2 tr n vs ns X T hd hu hst ho hsl hin hne hlen hi0 hi1 hx0 hx1 hr1 hr2 ret
  k_dflt (refine' enterK (args := ⟨[.ref st, .none, .int r tr], []⟩) X T ?k1 ?k2 ?k3 ?k4 ?k5 ?_ ?c1 ?c2 ?c3 ?c4; (case k1 => k_is); (case k2 => k_is); (case k3 => (dsimp only; omega)); (case k4 => exact BindsTo.of_eq rfl); (case k5 => exact locs rfl); (case c1 => rfl); (case c2 => rfl); (case c3 => rfl); (case c4 => decide); k_whole)
  intro L' h' F₀ _
  have hL : st ≠ L' := Nat.ne_of_lt (Nat.lt_of_lt_of_le (Heap.lt_size ho) F₀.above)
  have F' := hide_fr (a := st) F₀
  have N' : News (s.heap.hide st) L' h' [(st, stObj sl i x t1 t2 n)] := fun p hp => by
    obtain rfl := List.mem_singleton.mp hp
    exact ⟨F₀.keep _ _ ho, hL, Heap.hide_self _ _⟩
  have X' := hide_in (a := st) X (fun b o e => low_ne (klow b o e) hst)
  have T' := hide_read (a := st) T hst
  have hsl' : (s.heap.hide st).IsList sl vs.toArray := let ⟨o, e, r⟩ := hsl; ⟨o, (Heap.hide_ne _ hne).trans e, r⟩
  clear X T hsl F₀ ho
  (try dsimp only)
  (try k_fold)
  k_steps
  all_goals (
    (with_reducible rename Fr _ _ _ _ => F9)
    (with_reducible rename News _ _ _ _ => N9)
    (try dsimp only [qk])
    (try dsimp only)
    refine ret _ _ _ _ _ _ _ _ _ (fun b o hb e => F9.keep b o ((Heap.hide_ne _ hb).trans e)) (N9.get (by k_mem)) (by omega) (by omega) (by omega) (by omega) ?_
    exact ⟨_, (by with_reducible first | exact .inl rfl | exact .inr rfl), rfl⟩)
end Mine
end
section
open PySem PySem.W PySem.Calls PySem.Spec PyProof.Rows
set_option Elab.async false
set_option maxRecDepth 100000
set_option linter.unusedVariables false
namespace Mine
structure Let (l : Str) (c : Int) : Prop where
  let_ : ∀ x ∈ l.cps.toList, Rx.isLet x = true
  lo : 1 ≤ l.cps.size
  hi : l.cps.size ≤ 3
  col : ColOf l c
  nq : ∀ x ∈ l.cps.toList, Rx.nqOk x = true
theorem let_up_1 : Let (upS 1) 1 := by
  have e : upS 1 = ⟨#[65]⟩ := by decide +kernel
  rw [e]
  exact ⟨by decide, by decide, by decide, ⟨by decide, .inl ⟨65, 1, rfl, by decide, by decide, by decide, by decide, by decide⟩⟩, by decide +kernel⟩
theorem let_lo_1 : Let (Txt.lower (upS 1)) 1 := by
  have e : Txt.lower (upS 1) = ⟨#[97]⟩ := by decide +kernel
  rw [e]
  exact ⟨by decide, by decide, by decide, ⟨by decide, .inl ⟨97, 1, rfl, by decide, by decide, by decide, by decide, by decide⟩⟩, by decide +kernel⟩
theorem let_up_2 : Let (upS 2) 2 := by
  have e : upS 2 = ⟨#[66]⟩ := by decide +kernel
  rw [e]
  exact ⟨by decide, by decide, by decide, ⟨by decide, .inl ⟨66, 2, rfl, by decide, by decide, by decide, by decide, by decide⟩⟩, by decide +kernel⟩
theorem let_lo_2 : Let (Txt.lower (upS 2)) 2 := by
  have e : Txt.lower (upS 2) = ⟨#[98]⟩ := by decide +kernel
  rw [e]
  exact ⟨by decide, by decide, by decide, ⟨by decide, .inl ⟨98, 2, rfl, by decide, by decide, by decide, by decide, by decide⟩⟩, by decide +kernel⟩
theorem let_up_3 : Let (upS 3) 3 := by
  have e : upS 3 = ⟨#[67]⟩ := by decide +kernel
  rw [e]
  exact ⟨by decide, by decide, by decide, ⟨by decide, .inl ⟨67, 3, rfl, by decide, by decide, by decide, by decide, by decide⟩⟩, by decide +kernel⟩
theorem let_lo_3 : Let (Txt.lower (upS 3)) 3 := by
  have e : Txt.lower (upS 3) = ⟨#[99]⟩ := by decide +kernel
  rw [e]
  exact ⟨by decide, by decide, by decide, ⟨by decide, .inl ⟨99, 3, rfl, by decide, by decide, by decide, by decide, by decide⟩⟩, by decide +kernel⟩
theorem let_up_4 : Let (upS 4) 4 := by
  have e : upS 4 = ⟨#[68]⟩ := by decide +kernel
  rw [e]
  exact ⟨by decide, by decide, by decide, ⟨by decide, .inl ⟨68, 4, rfl, by decide, by decide, by decide, by decide, by decide⟩⟩, by decide +kernel⟩
theorem let_lo_4 : Let (Txt.lower (upS 4)) 4 := by
  have e : Txt.lower (upS 4) = ⟨#[100]⟩ := by decide +kernel
  rw [e]
  exact ⟨by decide, by decide, by decide, ⟨by decide, .inl ⟨100, 4, rfl, by decide, by decide, by decide, by decide, by decide⟩⟩, by decide +kernel⟩
theorem let_up_26 : Let (upS 26) 26 := by
  have e : upS 26 = ⟨#[90]⟩ := by decide +kernel
  rw [e]
  exact ⟨by decide, by decide, by decide, ⟨by decide, .inl ⟨90, 26, rfl, by decide, by decide, by decide, by decide, by decide⟩⟩, by decide +kernel⟩
theorem let_lo_26 : Let (Txt.lower (upS 26)) 26 := by
  have e : Txt.lower (upS 26) = ⟨#[122]⟩ := by decide +kernel
  rw [e]
  exact ⟨by decide, by decide, by decide, ⟨by decide, .inl ⟨122, 26, rfl, by decide, by decide, by decide, by decide, by decide⟩⟩, by decide +kernel⟩
theorem let_up_27 : Let (upS 27) 27 := by
  have e : upS 27 = ⟨#[65, 65]⟩ := by decide +kernel
  rw [e]
  exact ⟨by decide, by decide, by decide, ⟨by decide, .inr (.inl ⟨65, 65, 1, 1, rfl, by decide, by decide, by decide, by decide, by decide, by decide, by decide, by decide, by decide⟩)⟩, by decide +kernel⟩
theorem let_lo_27 : Let (Txt.lower (upS 27)) 27 := by
  have e : Txt.lower (upS 27) = ⟨#[97, 97]⟩ := by decide +kernel
  rw [e]
  exact ⟨by decide, by decide, by decide, ⟨by decide, .inr (.inl ⟨97, 97, 1, 1, rfl, by decide, by decide, by decide, by decide, by decide, by decide, by decide, by decide, by decide⟩)⟩, by decide +kernel⟩
theorem let_up_28 : Let (upS 28) 28 := by
  have e : upS 28 = ⟨#[65, 66]⟩ := by decide +kernel
  rw [e]
  exact ⟨by decide, by decide, by decide, ⟨by decide, .inr (.inl ⟨65, 66, 1, 2, rfl, by decide, by decide, by decide, by decide, by decide, by decide, by decide, by decide, by decide⟩)⟩, by decide +kernel⟩
theorem let_lo_28 : Let (Txt.lower (upS 28)) 28 := by
  have e : Txt.lower (upS 28) = ⟨#[97, 98]⟩ := by decide +kernel
  rw [e]
  exact ⟨by decide, by decide, by decide, ⟨by decide, .inr (.inl ⟨97, 98, 1, 2, rfl, by decide, by decide, by decide, by decide, by decide, by decide, by decide, by decide, by decide⟩)⟩, by decide +kernel⟩
theorem let_up_29 : Let (upS 29) 29 := by
  have e : upS 29 = ⟨#[65, 67]⟩ := by decide +kernel
  rw [e]
  exact ⟨by decide, by decide, by decide, ⟨by decide, .inr (.inl ⟨65, 67, 1, 3, rfl, by decide, by decide, by decide, by decide, by decide, by decide, by decide, by decide, by decide⟩)⟩, by decide +kernel⟩
theorem let_lo_29 : Let (Txt.lower (upS 29)) 29 := by
  have e : Txt.lower (upS 29) = ⟨#[97, 99]⟩ := by decide +kernel
  rw [e]
  exact ⟨by decide, by decide, by decide, ⟨by decide, .inr (.inl ⟨97, 99, 1, 3, rfl, by decide, by decide, by decide, by decide, by decide, by decide, by decide, by decide, by decide⟩)⟩, by decide +kernel⟩
theorem let_up_701 : Let (upS 701) 701 := by
  have e : upS 701 = ⟨#[90, 89]⟩ := by decide +kernel
  rw [e]
  exact ⟨by decide, by decide, by decide, ⟨by decide, .inr (.inl ⟨90, 89, 26, 25, rfl, by decide, by decide, by decide, by decide, by decide, by decide, by decide, by decide, by decide⟩)⟩, by decide +kernel⟩
theorem let_lo_701 : Let (Txt.lower (upS 701)) 701 := by
  have e : Txt.lower (upS 701) = ⟨#[122, 121]⟩ := by decide +kernel
  rw [e]
  exact ⟨by decide, by decide, by decide, ⟨by decide, .inr (.inl ⟨122, 121, 26, 25, rfl, by decide, by decide, by decide, by decide, by decide, by decide, by decide, by decide, by decide⟩)⟩, by decide +kernel⟩
theorem let_up_702 : Let (upS 702) 702 := by
  have e : upS 702 = ⟨#[90, 90]⟩ := by decide +kernel
  rw [e]
  exact ⟨by decide, by decide, by decide, ⟨by decide, .inr (.inl ⟨90, 90, 26, 26, rfl, by decide, by decide, by decide, by decide, by decide, by decide, by decide, by decide, by decide⟩)⟩, by decide +kernel⟩
theorem let_lo_702 : Let (Txt.lower (upS 702)) 702 := by
  have e : Txt.lower (upS 702) = ⟨#[122, 122]⟩ := by decide +kernel
  rw [e]
  exact ⟨by decide, by decide, by decide, ⟨by decide, .inr (.inl ⟨122, 122, 26, 26, rfl, by decide, by decide, by decide, by decide, by decide, by decide, by decide, by decide, by decide⟩)⟩, by decide +kernel⟩
theorem let_up_703 : Let (upS 703) 703 := by
  have e : upS 703 = ⟨#[65, 65, 65]⟩ := by decide +kernel
  rw [e]
  exact ⟨by decide, by decide, by decide, ⟨by decide, .inr (.inr ⟨65, 65, 65, 1, 1, 1, rfl, by decide, by decide, by decide, by decide, by decide, by decide, by decide, by decide, by decide, by decide, by decide, by decide, by decide⟩)⟩, by decide +kernel⟩
theorem let_lo_703 : Let (Txt.lower (upS 703)) 703 := by
  have e : Txt.lower (upS 703) = ⟨#[97, 97, 97]⟩ := by decide +kernel
  rw [e]
  exact ⟨by decide, by decide, by decide, ⟨by decide, .inr (.inr ⟨97, 97, 97, 1, 1, 1, rfl, by decide, by decide, by decide, by decide, by decide, by decide, by decide, by decide, by decide, by decide, by decide, by decide, by decide⟩)⟩, by decide +kernel⟩
theorem let_up_704 : Let (upS 704) 704 := by
  have e : upS 704 = ⟨#[65, 65, 66]⟩ := by decide +kernel
  rw [e]
  exact ⟨by decide, by decide, by decide, ⟨by decide, .inr (.inr ⟨65, 65, 66, 1, 1, 2, rfl, by decide, by decide, by decide, by decide, by decide, by decide, by decide, by decide, by decide, by decide, by decide, by decide, by decide⟩)⟩, by decide +kernel⟩
theorem let_lo_704 : Let (Txt.lower (upS 704)) 704 := by
  have e : Txt.lower (upS 704) = ⟨#[97, 97, 98]⟩ := by decide +kernel
  rw [e]
  exact ⟨by decide, by decide, by decide, ⟨by decide, .inr (.inr ⟨97, 97, 98, 1, 1, 2, rfl, by decide, by decide, by decide, by decide, by decide, by decide, by decide, by decide, by decide, by decide, by decide, by decide, by decide⟩)⟩, by decide +kernel⟩
theorem let_c {c : Int} {l : Str} (hc : IsC c) (hl : l = upS c ∨ l = Txt.lower (upS c)) : Let l c := by
  rcases hc with rfl | rfl | rfl | rfl | rfl | rfl | rfl | rfl | rfl | rfl | rfl | rfl <;> rcases hl with rfl | rfl
  · exact let_up_1
  · exact let_lo_1
  · exact let_up_2
  · exact let_lo_2
  · exact let_up_3
  · exact let_lo_3
  · exact let_up_4
  · exact let_lo_4
  · exact let_up_26
  · exact let_lo_26
  · exact let_up_27
  · exact let_lo_27
  · exact let_up_28
  · exact let_lo_28
  · exact let_up_29
  · exact let_lo_29
  · exact let_up_701
  · exact let_lo_701
  · exact let_up_702
  · exact let_lo_702
  · exact let_up_703
  · exact let_lo_703
  · exact let_up_704
  · exact let_lo_704
structure Dig (l : Str) (r : Int) : Prop where
  dig : ∀ c ∈ l.cps.toList, Unicode.isDecimal c = true ∧ c ≠ 36 ∧ Rx.isLet c = false
  lo : 1 ≤ l.cps.size
  hi : l.cps.size ≤ 2
  val : PySem.intText? l = some r
  nq : ∀ x ∈ l.cps.toList, Rx.nqOk x = true
theorem dig_r {r : Int} (h1 : 1 ≤ r) (h2 : r ≤ 15) : Dig (Str.ofString (toString r)) r := by
  have hr : r = 1 ∨ r = 2 ∨ r = 3 ∨ r = 4 ∨ r = 5 ∨ r = 6 ∨ r = 7 ∨ r = 8 ∨ r = 9 ∨ r = 10 ∨ r = 11 ∨ r = 12 ∨ r = 13 ∨ r = 14 ∨ r = 15 := by omega
  rcases hr with rfl | rfl | rfl | rfl | rfl | rfl | rfl | rfl | rfl | rfl | rfl | rfl | rfl | rfl | rfl <;> exact ⟨by decide +kernel, by decide +kernel, by decide +kernel, by decide +kernel, by decide +kernel⟩
end Mine
end
section
open PySem PySem.W PySem.Calls PySem.Spec PyProof.Rows PySem.Builtin PySem.Builtin.Re
set_option Elab.async false
set_option maxRecDepth 100000
set_option maxHeartbeats 4000000
set_option linter.unusedVariables false
namespace Mine
theorem plain_pat : PlainAttrs "re.Pattern" :=
  ⟨⟨"object.__getattribute__", by rw [typeLookup_type, builtinLookup_eq_fast]; kernel_rfl, by decide +kernel⟩, by rw [typeLookup_type, builtinLookup_eq_fast]; kernel_rfl⟩
theorem plain_mat : PlainAttrs "re.Match" :=
  ⟨⟨"object.__getattribute__", by rw [typeLookup_type, builtinLookup_eq_fast]; kernel_rfl, by decide +kernel⟩, by rw [typeLookup_type, builtinLookup_eq_fast]; kernel_rfl⟩
theorem slot_groups : Slot "re.Match" "groups" "re.Match.groups" :=
  Slot.of (owner := "re.Match") (n := "groups") (by rw [typeLookup_type, builtinLookup_eq_fast]; kernel_rfl) (by decide +kernel) (by decide +kernel) (by decide +kernel) (by first | exact .inl (by decide +kernel) | exact .inr (by decide +kernel)) (by rw [isSubtype_type]; kernel_rfl)
theorem type_groups : typeOf (.builtin "re.Match.groups") = pure (.type "method_descriptor") := by show builtinType _ = _; rw [builtinType_eq_fast]; kernel_rfl
theorem entry_groups : entryFor table "re.Match.groups" = some Builtin.«re.Match.groups» := entryFor_of_tree (by kernel_rfl)
theorem args_groups (a : Value) : argsOk "re.Match.groups" ⟨[a], []⟩ := by unfold argsOk; kernel_rfl
theorem slot_group : Slot "re.Match" "group" "re.Match.group" :=
  Slot.of (owner := "re.Match") (n := "group") (by rw [typeLookup_type, builtinLookup_eq_fast]; kernel_rfl) (by decide +kernel) (by decide +kernel) (by decide +kernel) (by first | exact .inl (by decide +kernel) | exact .inr (by decide +kernel)) (by rw [isSubtype_type]; kernel_rfl)
theorem type_group : typeOf (.builtin "re.Match.group") = pure (.type "method_descriptor") := by show builtinType _ = _; rw [builtinType_eq_fast]; kernel_rfl
theorem entry_group : entryFor table "re.Match.group" = some Builtin.«re.Match.group» := entryFor_of_tree (by kernel_rfl)
theorem args_group (a b : Value) : argsOk "re.Match.group" ⟨[a, b], []⟩ := by unfold argsOk; kernel_rfl
theorem slot_gdict : Slot "re.Match" "groupdict" "re.Match.groupdict" :=
  Slot.of (owner := "re.Match") (n := "groupdict") (by rw [typeLookup_type, builtinLookup_eq_fast]; kernel_rfl) (by decide +kernel) (by decide +kernel) (by decide +kernel) (by first | exact .inl (by decide +kernel) | exact .inr (by decide +kernel)) (by rw [isSubtype_type]; kernel_rfl)
theorem type_gdict : typeOf (.builtin "re.Match.groupdict") = pure (.type "method_descriptor") := by show builtinType _ = _; rw [builtinType_eq_fast]; kernel_rfl
theorem entry_gdict : entryFor table "re.Match.groupdict" = some Builtin.«re.Match.groupdict» := entryFor_of_tree (by kernel_rfl)
theorem args_gdict (a b : Value) : argsOk "re.Match.groupdict" ⟨[a, b], []⟩ := by unfold argsOk; kernel_rfl
theorem noBool_mat : typeLookup (.type "re.Match") "__bool__" = pure none := by rw [typeLookup_type, builtinLookup_eq_fast]; kernel_rfl
theorem noLen_mat : typeLookup (.type "re.Match") "__len__" = pure none := by rw [typeLookup_type, builtinLookup_eq_fast]; kernel_rfl
theorem noIndex_str : typeLookup (.type "str") "__index__" = pure none := by rw [typeLookup_type, builtinLookup_eq_fast]; kernel_rfl
section
variable {prog : Program} {w : World} {A : Around} {E : Value → Shared → Prop} {s : Shared} {h₀ : Heap} {L : Addr} {m : Str → Option Value} {news : List (Addr × Obj)}
theorem pat_method {p idx : Addr} {code : Array Nat} {n : Nat} {pl : Sem Bool} {Q : Value × List Value → Shared → Prop} (hp : IsPat s.heap p code n idx) (h : Q (.builtin "re.Pattern.match", [.ref p]) s) :
    wpAny (model prog w) A (getMethod (.ref p) "match" pl) Q E s := by
  obtain ⟨o, fs, ho, hc, hdn, _⟩ := hp.obj
  exact getMethod_builtin ⟨o, ho, hc⟩ plain_pat slot_match type_match (fun a e => by cases e; exact ⟨o, ho, hdn⟩) h
theorem mat_method {M p T : Addr} {x : Str} {t : Tok} {lim : Nat} {li : Int} {name : Str} {id : String} {pl : Sem Bool} {Q : Value × List Value → Shared → Prop} (N : News h₀ L s.heap news) (hm : (M, matchObj x t p lim li T) ∈ news) (slot : Slot "re.Match" name id) (hty : typeOf (.builtin id) = pure (.type "method_descriptor"))
    (h : Q (.builtin id, [.ref M]) s) : wpAny (model prog w) A (getMethod (.ref M) name pl) Q E s :=
  getMethod_builtin ⟨_, (N _ hm).1, rfl⟩ plain_mat slot hty (fun a e => by cases e; exact ⟨_, (N _ hm).1, rfl⟩) h
theorem mat_truthy {M p T : Addr} {x : Str} {t : Tok} {lim : Nat} {li : Int} {Q : Bool → Shared → Prop} (N : News h₀ L s.heap news) (hm : (M, matchObj x t p lim li T) ∈ news) (h : Q true s) : wpAny (model prog w) A (truthy (.ref M)) Q E s := by
  have hT : s.TypeIs (.ref M) "re.Match" := ⟨_, (N _ hm).1, rfl⟩
  unfold truthy
  first
    | refine wpAny_bind (wpAny_callSpecial?_none (name := Str.ofString "__bool__") hT noBool_mat ?_)
    | refine wpAny_bind (wpAny_pure (wpAny_bind (wpAny_callSpecial?_none (name := Str.ofString "__bool__") hT noBool_mat ?_)))
  first
    | refine wpAny_bind (wpAny_specialOf (name := Str.ofString "__len__") hT noLen_mat ?_)
    | refine wpAny_bind (wpAny_pure (wpAny_bind (wpAny_specialOf (name := Str.ofString "__len__") hT noLen_mat ?_)))
  exact wpAny_pure h
theorem wp_groups {x : Str} {t : Tok} {p : Addr} {lim : Nat} {li : Int} {T : Addr} {stop : Nat} {v : Nat → Option Nat} {n : Nat} (hx : x.cps.size ≤ 1000) : ∀ (l : List Nat) (s : Shared) (Q : List Value → Shared → Prop), (∀ g ∈ l, g < n) →
    (∀ vs k, Vals (l.map (grp v x)) vs → Q vs { s with toks := k }) → wpAny (model prog w) A (l.mapM fun g => reGroupText (found x t p lim li T stop v n) (g + 1) .none) Q E s
  | [], s, Q, _, h => by
    rw [List.mapM_nil]; exact wpAny_pure (h [] s.toks .nil)
  | g :: l, s, Q, hg, h => by
    rw [List.mapM_cons]
    refine wpAny_bind (wpAny_group hx (hg g (.head _)) fun k => ?_)
    refine wpAny_bind (wp_groups hx l _ _ (fun g' h' => hg g' (.tail _ h')) fun vs k' hv => ?_)
    refine wpAny_pure (h _ _ ?_)
    rw [List.map_cons]
    cases e : grp v x g with
    | none => exact .none hv
    | some y => exact .some hv
theorem groups_F {M T p : Addr} {x : Str} {t : Tok} {lim : Nat} {li : Int} {stop n : Nat} {v : Nat → Option Nat} {os : List (Option Str)} {Q : Value → Shared → Prop} (F : Fr h₀ L s.heap m) (N : News h₀ L s.heap news)
    (hM : (M, matchObj x t p lim li T) ∈ news) (hT : (T, tupObj (rawInt 0 :: rawInt stop :: spanVals v n)) ∈ news) (hx : x.cps.size ≤ 1000) (hn : n ≤ 1000) (ho : (List.range n).map (grp v x) = os)
    (h : ∀ vs D h' k, Vals os vs → Fr h₀ L h' m → News h₀ L h' ((D, tupObj vs) :: news) → (∀ q ∈ news, q.1 < D) → Q (.ref D) { s with heap := h', toks := k }) :
    wpAny (model prog w) A (call (.builtin "re.Match.groups") [.ref M]) Q E s := by
  subst ho
  have hty : s.TypeIs (.ref M) "re.Match" := ⟨_, (N _ hM).1, rfl⟩
  refine wpAny_call_entry slot_groups (T := "re.Match") hty entry_groups ?_ (args_groups _)
  unfold Builtin.«re.Match.groups»
  refine wpAny_bind ?_
  unfold reWithDefault
  dsimp only
  refine wpAny_bind (wpAny_of_eq (a := [none]) rfl ?_)
  dsimp only
  refine wpAny_bind (wpAny_reFound (N _ hM).1 (N _ hT).1 (wpAny_pure ?_))
  dsimp only [Option.getD_none]
  have hsz : (found x t p lim li T stop v n).spans.size / 2 - 1 = n := by
    have h1 : ∀ l : List Nat, (l.flatMap fun g => (Rx.spans v g).map rawInt).length = 2 * l.length := by
      intro l
      induction l with
      | nil => rfl
      | cons g l ih =>
        rw [List.flatMap_cons, List.length_append, List.length_map, List.length_cons, ih]
        have : (Rx.spans v g).length = 2 := by unfold Rx.spans; cases v (2 * g) <;> cases v (2 * g + 1) <;> rfl
        omega
    have h2 : (spanVals v n).length = 2 * n := by unfold spanVals; rw [h1, List.length_range]
    have h3 : (found x t p lim li T stop v n).spans.size = 2 * n + 2 := by
      unfold found
      simp [h2]
    omega
  rw [hsz]
  refine wpAny_bind (wp_groups hx _ _ _ (fun g hg => List.mem_range.mp hg) fun vs k hv => ?_)
  refine wpAny_bind (wpAny_newTuple ?_ ?_)
  · refine wpAny_pure ⟨_, rfl, ?_⟩
    exact h vs _ _ k hv (F.push _) (News.push F N _) fun q hq => Heap.lt_size (N q hq).1
  · have : ∀ {os vs}, Vals os vs → vs.length = os.length := by
      intro os vs hh
      induction hh with
      | nil => rfl
      | none _ ih => simp [ih]
      | some _ ih => simp [ih]
    have hl := this hv
    rw [List.length_map, List.length_range] at hl
    exact Nat.le_trans (show _ ≤ 1000 by omega) (by decide)
theorem vals_cons {o : Option Str} {os : List (Option Str)} {vs : List Value} (h : Vals (o :: os) vs) : ∃ t r, vs = strOr .none o t :: r ∧ Vals os r := by
  cases h with
  | none h => exact ⟨0, _, rfl, h⟩
  | some h => exact ⟨_, _, rfl, h⟩
theorem vals_nil {vs : List Value} (h : Vals [] vs) : vs = [] := by cases h; rfl
theorem groups5 {M T p : Addr} {x : Str} {t : Tok} {lim : Nat} {li : Int} {stop : Nat} {v : Nat → Option Nat} {a b c d e : Option Str} {Q : Value → Shared → Prop} (F : Fr h₀ L s.heap m) (N : News h₀ L s.heap news)
    (hM : (M, matchObj x t p lim li T) ∈ news) (hT : (T, tupObj (rawInt 0 :: rawInt stop :: spanVals v 5)) ∈ news) (hx : x.cps.size ≤ 1000) (ho : (List.range 5).map (grp v x) = [a, b, c, d, e])
    (h : ∀ t1 t2 t3 t4 t5 D h' k, Fr h₀ L h' m → News h₀ L h' ((D, tupObj [strOr .none a t1, strOr .none b t2, strOr .none c t3, strOr .none d t4, strOr .none e t5]) :: news) → (∀ q ∈ news, q.1 < D) → Q (.ref D) { s with heap := h', toks := k }) :
    wpAny (model prog w) A (call (.builtin "re.Match.groups") [.ref M]) Q E s := by
  refine groups_F F N hM hT hx (by decide) ho fun vs D h' k hv F' N' hl => ?_
  obtain ⟨t1, r1, e1, hv1⟩ := vals_cons hv
  obtain ⟨t2, r2, e2, hv2⟩ := vals_cons hv1
  obtain ⟨t3, r3, e3, hv3⟩ := vals_cons hv2
  obtain ⟨t4, r4, e4, hv4⟩ := vals_cons hv3
  obtain ⟨t5, r5, e5, hv5⟩ := vals_cons hv4
  have e6 := vals_nil hv5
  subst e6 e5 e4 e3 e2 e1
  exact h t1 t2 t3 t4 t5 D h' k F' N' hl
end
end Mine
end
section
open PySem PySem.W PySem.Calls PySem.Spec PyProof.Rows
set_option Elab.async false
set_option maxRecDepth 100000
set_option maxHeartbeats 4000000
set_option linter.unusedVariables false
set_option linter.unusedSimpArgs false
namespace Mine
theorem truthy_s {prog : Program} {w : World} {A : Around} {E : Value → Shared → Prop} {s : Shared} {x : Str} {t : Tok} {Q : Bool → Shared → Prop} (h0 : x.cps.size ≠ 0) (h1 : x.cps.size ≤ 1000) (h : ∀ k, Q true { s with toks := k }) : wpAny (model prog w) A (truthy (.str x t)) Q E s := by
  have e1 : x.length = x.cps.size := rfl
  refine P.truthy_str (by omega) ?_
  have e : ((x.length : Int) != 0) = true := bne_iff_ne.mpr (by omega)
  rw [e]
  exact h _
/-- the values of a tuple: None or a text that is not empty -/
inductive NS : Value → Bool → Prop
  | none : NS .none false
  | str {x t} : x.cps.size ≠ 0 → x.cps.size ≤ 1000 → NS (.str x t) true
inductive NSs : List Value → List Bool → Prop
  | nil : NSs [] []
  | cons {v b vs bs} : NS v b → NSs vs bs → NSs (v :: vs) (b :: bs)
theorem NSs.get : ∀ {vs : List Value} {bs : List Bool}, NSs vs bs → ∀ (i : Nat) (v : Value), vs[i]? = some v → ∃ b, bs[i]? = some b ∧ NS v b
  | _, _, .nil, i, v, h => by simp at h
  | _, _, .cons h r, 0, v, e => by
    simp only [List.getElem?_cons_zero, Option.some.injEq] at e
    subst e
    exact ⟨_, rfl, h⟩
  | _, _, .cons h r, i + 1, v, e => by
    obtain ⟨b, h1, h2⟩ := NSs.get r i v (by simpa using e)
    exact ⟨b, by simpa using h1, h2⟩
theorem NSs.length {vs : List Value} {bs : List Bool} (h : NSs vs bs) : vs.length = bs.length := by
  induction h with
  | nil => rfl
  | cons _ _ ih => simp [ih]
section
variable {prog : Program} {w : World} {A : Around} {E : Value → Shared → Prop} {s : Shared} {h₀ : Heap} {L : Addr} {m : Str → Option Value} {news : List (Addr × Obj)}
def TruthT (prog : Program) (w : World) (A : Around) (P : Nat → Value → Prop) (tr : Nat → Bool) : Prop :=
  ∀ i v (s : Shared) (Q : Bool → Shared → Prop) (E : Value → Shared → Prop), P i v → (∀ k, Q (tr i) { s with toks := k }) → wpAny (model prog w) A (truthy v) Q E s
theorem all_loop {R : Result → Shared → Prop} {I : Addr} {fp wr : List Addr} {n : Nat} {P : Nat → Value → Prop} {St : Nat → Heap → Prop} (W : Walks prog w A.in1 I fp wr n P St) (tr : Nat → Bool) (htr : TruthT prog w A.in1 P tr) : ∀ (k i : Nat) (s : Shared), n - i = k → i ≤ n → St i s.heap →
    (∀ h' tk, (∀ b o, b ∉ wr → s.heap.get? b = some o → h'.get? b = some o) → R (.ok (.ret (.bool (((List.range n).drop i).all tr)))) { s with heap := h', toks := tk }) →
    codeAny (model prog w) A (.builtin "all.loop" ⟨[.ref I], []⟩) R s := by
  intro k
  induction k with
  | zero =>
    intro i s hk hi hst hR
    have hin : i = n := by omega
    subst hin
    refine codeAny_builtin F.entry_all_loop ?_
    rw [Around.under_plainId F.plain_all_loop _]
    show wpAny _ A.in1 (pyNext (.ref I) >>= _) _ _ s
    refine wpAny_bind (W.done s _ _ hst fun h' tk hk' => ?_)
    refine wpAny_bind (wpAny_rule (wpAny_pure ?_))
    have := hR h' tk hk'
    rw [List.drop_of_length_le (by simp)] at this
    exact this
  | succ k ih =>
    intro i s hk hi hst hR
    have hlt : i < n := by omega
    have hd : (List.range n).drop i = i :: (List.range n).drop (i + 1) := by
      rw [List.drop_eq_getElem_cons (by simpa using hlt)]; simp
    refine codeAny_builtin F.entry_all_loop ?_
    rw [Around.under_plainId F.plain_all_loop _]
    show wpAny _ A.in1 (pyNext (.ref I) >>= _) _ _ s
    refine wpAny_bind (W.item i s _ _ hlt hst fun v h' tk hP hst' hk' => ?_)
    refine wpAny_bind (wpAny_holding (htr i v _ _ _ hP fun kk => ?_))
    refine wpAny_bind (wpAny_letGo ?_)
    cases hb : tr i with
    | true =>
      simp only [Bool.false_eq_true, if_false, if_true]
      refine wpAny_pure ⟨plainId_quiet F.plain_all_loop _, ih (i + 1) _ (by omega) hlt hst' fun h'' tk'' hk'' => ?_⟩
      have := hR h'' tk'' fun b o hbw e => hk'' b o hbw (hk' b o hbw e)
      rw [hd, List.all_cons, hb, Bool.true_and] at this
      exact this
    | false =>
      simp only [Bool.false_eq_true, if_false, if_true]
      refine wpAny_bind (wpAny_rule (wpAny_pure ?_))
      have := hR h' kk hk'
      rw [hd, List.all_cons, hb, Bool.false_and] at this
      exact this
theorem all_walk {x : Value} {Q : Value → Shared → Prop}
    (h : wpAny (model prog w) A.in1 (pyIter x) (fun it s₂ => ∃ I fp wr n P St tr, it = .ref I ∧ Walks prog w A.in1 I fp wr n P St ∧ St 0 s₂.heap ∧ TruthT prog w A.in1 P tr ∧
      ∀ h' tk, (∀ b o, b ∉ wr → s₂.heap.get? b = some o → h'.get? b = some o) → Q (.bool ((List.range n).all tr)) { s₂ with heap := h', toks := tk }) E s) :
    wpAny (model prog w) A (call (.builtin "all") [x]) Q E s := by
  refine call_function_tree F.kind_all F.plain_all F.entry_all (F.args_all1 _) ?_
  unfold Builtin.«all»
  refine wpAny_bind (m := oneArg "all" _) (wpAny_pure ?_)
  refine wpAny_bind (wpAny_mono h (fun it s₂ h₂ => ?_) fun _ _ e => e)
  obtain ⟨I, fp, wr, n, P, St, tr, rfl, W, hst, htr, hQ⟩ := h₂
  exact wpAny_pure ⟨plainId_quiet F.plain_all_loop _, all_loop W tr htr n 0 s₂ rfl (Nat.zero_le _) hst fun h' tk hk => by simpa using hQ h' tk hk⟩
theorem any_loop {R : Result → Shared → Prop} {I : Addr} {fp wr : List Addr} {n : Nat} {P : Nat → Value → Prop} {St : Nat → Heap → Prop} (W : Walks prog w A.in1 I fp wr n P St) (tr : Nat → Bool) (htr : TruthT prog w A.in1 P tr) : ∀ (k i : Nat) (s : Shared), n - i = k → i ≤ n → St i s.heap →
    (∀ h' tk, (∀ b o, b ∉ wr → s.heap.get? b = some o → h'.get? b = some o) → R (.ok (.ret (.bool (((List.range n).drop i).any tr)))) { s with heap := h', toks := tk }) →
    codeAny (model prog w) A (.builtin "any.loop" ⟨[.ref I], []⟩) R s := by
  intro k
  induction k with
  | zero =>
    intro i s hk hi hst hR
    have hin : i = n := by omega
    subst hin
    refine codeAny_builtin F.entry_any_loop ?_
    rw [Around.under_plainId F.plain_any_loop _]
    show wpAny _ A.in1 (pyNext (.ref I) >>= _) _ _ s
    refine wpAny_bind (W.done s _ _ hst fun h' tk hk' => ?_)
    refine wpAny_bind (wpAny_rule (wpAny_pure ?_))
    have := hR h' tk hk'
    rw [List.drop_of_length_le (by simp)] at this
    exact this
  | succ k ih =>
    intro i s hk hi hst hR
    have hlt : i < n := by omega
    have hd : (List.range n).drop i = i :: (List.range n).drop (i + 1) := by
      rw [List.drop_eq_getElem_cons (by simpa using hlt)]; simp
    refine codeAny_builtin F.entry_any_loop ?_
    rw [Around.under_plainId F.plain_any_loop _]
    show wpAny _ A.in1 (pyNext (.ref I) >>= _) _ _ s
    refine wpAny_bind (W.item i s _ _ hlt hst fun v h' tk hP hst' hk' => ?_)
    refine wpAny_bind (wpAny_holding (htr i v _ _ _ hP fun kk => ?_))
    refine wpAny_bind (wpAny_letGo ?_)
    cases hb : tr i with
    | false =>
      simp only [Bool.false_eq_true, if_false, if_true]
      refine wpAny_pure ⟨plainId_quiet F.plain_any_loop _, ih (i + 1) _ (by omega) hlt hst' fun h'' tk'' hk'' => ?_⟩
      have := hR h'' tk'' fun b o hbw e => hk'' b o hbw (hk' b o hbw e)
      rw [hd, List.any_cons, hb, Bool.false_or] at this
      exact this
    | true =>
      simp only [Bool.false_eq_true, if_false, if_true]
      refine wpAny_bind (wpAny_rule (wpAny_pure ?_))
      have := hR h' kk hk'
      rw [hd, List.any_cons, hb, Bool.true_or] at this
      exact this
theorem any_walk {x : Value} {Q : Value → Shared → Prop}
    (h : wpAny (model prog w) A.in1 (pyIter x) (fun it s₂ => ∃ I fp wr n P St tr, it = .ref I ∧ Walks prog w A.in1 I fp wr n P St ∧ St 0 s₂.heap ∧ TruthT prog w A.in1 P tr ∧
      ∀ h' tk, (∀ b o, b ∉ wr → s₂.heap.get? b = some o → h'.get? b = some o) → Q (.bool ((List.range n).any tr)) { s₂ with heap := h', toks := tk }) E s) :
    wpAny (model prog w) A (call (.builtin "any") [x]) Q E s := by
  refine call_function_tree F.kind_any F.plain_any F.entry_any (F.args_any1 _) ?_
  unfold Builtin.«any»
  refine wpAny_bind (m := oneArg "any" _) (wpAny_pure ?_)
  refine wpAny_bind (wpAny_mono h (fun it s₂ h₂ => ?_) fun _ _ e => e)
  obtain ⟨I, fp, wr, n, P, St, tr, rfl, W, hst, htr, hQ⟩ := h₂
  exact wpAny_pure ⟨plainId_quiet F.plain_any_loop _, any_loop W tr htr n 0 s₂ rfl (Nat.zero_le _) hst fun h' tk hk => by simpa using hQ h' tk hk⟩
theorem truthOf_ns {vs : List Value} {bs : List Bool} (hb : NSs vs bs) (d : Bool) : TruthT prog w A (fun i v => vs.toArray[i]? = some v) fun i => (bs[i]?).getD d := by
  intro i v s' Q' E' hP hQ
  obtain ⟨b, e, hn⟩ := hb.get i v (by simpa using hP)
  simp only [e, Option.getD_some] at hQ
  cases hn with
  | none => exact wpAny_of_eq rfl (hQ s'.toks)
  | str h0 h1 => exact truthy_s h0 h1 fun k => hQ k
theorem all_ns {l : Addr} {vs : List Value} {bs : List Bool} {Q : Value → Shared → Prop} (F : Fr h₀ L s.heap m) (N : News h₀ L s.heap news) (hh : A.handled = none) (hm : (l, tupObj vs) ∈ news) (hb : NSs vs bs)
    (h : ∀ h' tk, Fr h₀ L h' m → News h₀ L h' news → Q (.bool (bs.all id)) { s with heap := h', toks := tk }) : wpAny (model prog w) A (call (.builtin "all") [.ref l]) Q E s := by
  have hl : s.heap.IsTuple l vs.toArray := ⟨_, (N _ hm).1, rfl, _, rfl⟩
  have hlt : l < s.heap.objs.size := Heap.lt_size (N _ hm).1
  refine all_walk (wpAny_pyIter_tuple hl ?_)
  refine ⟨s.heap.objs.size, [s.heap.objs.size, l], [s.heap.objs.size], vs.toArray.size, _, _, fun i => (bs[i]?).getD true, rfl, Walks.tuple (A := A.in1) hh _ l (Nat.ne_of_lt hlt) vs.toArray,
    ⟨⟨_, Heap.get?_push_size _ rfl, rfl, rfl⟩, hl.at fun o e => Heap.get?_push_of_some _ e⟩, truthOf_ns hb true, fun h' tk hk => ?_⟩
  have e : ((List.range vs.toArray.size).all fun i => (bs[i]?).getD true) = bs.all id := by
    rw [List.size_toArray, hb.length]; exact LSm.range_all bs
  rw [e]
  exact h h' tk (F.keeps (LSm.kept_iter hk)) (N.grown (LSm.kept_iter hk))
theorem any_ns {l : Addr} {vs : List Value} {bs : List Bool} {Q : Value → Shared → Prop} (F : Fr h₀ L s.heap m) (N : News h₀ L s.heap news) (hh : A.handled = none) (hm : (l, tupObj vs) ∈ news) (hb : NSs vs bs)
    (h : ∀ h' tk, Fr h₀ L h' m → News h₀ L h' news → Q (.bool (bs.any id)) { s with heap := h', toks := tk }) : wpAny (model prog w) A (call (.builtin "any") [.ref l]) Q E s := by
  have hl : s.heap.IsTuple l vs.toArray := ⟨_, (N _ hm).1, rfl, _, rfl⟩
  have hlt : l < s.heap.objs.size := Heap.lt_size (N _ hm).1
  refine any_walk (wpAny_pyIter_tuple hl ?_)
  refine ⟨s.heap.objs.size, [s.heap.objs.size, l], [s.heap.objs.size], vs.toArray.size, _, _, fun i => (bs[i]?).getD false, rfl, Walks.tuple (A := A.in1) hh _ l (Nat.ne_of_lt hlt) vs.toArray,
    ⟨⟨_, Heap.get?_push_size _ rfl, rfl, rfl⟩, hl.at fun o e => Heap.get?_push_of_some _ e⟩, truthOf_ns hb false, fun h' tk hk => ?_⟩
  have e : ((List.range vs.toArray.size).any fun i => (bs[i]?).getD false) = bs.any id := by
    rw [List.size_toArray, hb.length]; exact LSm.range_any bs
  rw [e]
  exact h h' tk (F.keeps (LSm.kept_iter hk)) (N.grown (LSm.kept_iter hk))
def nsb : Value → Bool
  | .str _ _ => true
  | _ => false
noncomputable def NSl : List Value → Prop
  | [] => True
  | v :: r => NS v (nsb v) ∧ NSl r
theorem NSl.to : ∀ {vs : List Value}, NSl vs → NSs vs (vs.map nsb)
  | [], _ => .nil
  | _ :: _, h => .cons h.1 h.2.to
theorem ns_str {x : Str} {t : Tok} (a : x.cps.size ≠ 0) (b : x.cps.size ≤ 1000) : NS (.str x t) (nsb (.str x t)) := .str a b
theorem ns_none : NS .none (nsb .none) := .none
theorem all_l {l : Addr} {vs : List Value} {Q : Value → Shared → Prop} (F : Fr h₀ L s.heap m) (N : News h₀ L s.heap news) (hh : A.handled = none) (hm : (l, tupObj vs) ∈ news) (hb : NSl vs)
    (h : ∀ h' tk, Fr h₀ L h' m → News h₀ L h' news → Q (.bool ((vs.map nsb).all id)) { s with heap := h', toks := tk }) : wpAny (model prog w) A (call (.builtin "all") [.ref l]) Q E s := all_ns F N hh hm hb.to h
theorem any_l {l : Addr} {vs : List Value} {Q : Value → Shared → Prop} (F : Fr h₀ L s.heap m) (N : News h₀ L s.heap news) (hh : A.handled = none) (hm : (l, tupObj vs) ∈ news) (hb : NSl vs)
    (h : ∀ h' tk, Fr h₀ L h' m → News h₀ L h' news → Q (.bool ((vs.map nsb).any id)) { s with heap := h', toks := tk }) : wpAny (model prog w) A (call (.builtin "any") [.ref l]) Q E s := any_ns F N hh hm hb.to h
end
end Mine
end
section
local macro_rules | `(tactic| walk_at "mine pad 0") => `(tactic| skip)
local macro_rules | `(tactic| walk_at "mine pad 1") => `(tactic| skip)
local macro_rules | `(tactic| walk_at "mine pad 2") => `(tactic| skip)
local macro_rules | `(tactic| walk_at "mine pad 3") => `(tactic| skip)
local macro_rules | `(tactic| walk_at "mine pad 4") => `(tactic| skip)
local macro_rules | `(tactic| walk_at "mine pad 5") => `(tactic| skip)
local macro_rules | `(tactic| walk_at "mine pad 6") => `(tactic| skip)
local macro_rules | `(tactic| walk_at "mine pad 7") => `(tactic| skip)
local macro_rules | `(tactic| walk_at "mine pad 8") => `(tactic| skip)
local macro_rules | `(tactic| walk_at "mine pad 9") => `(tactic| skip)
local macro_rules | `(tactic| walk_at "mine pad 10") => `(tactic| skip)
local macro_rules | `(tactic| walk_at "mine pad 11") => `(tactic| skip)
local macro_rules | `(tactic| walk_at "mine pad 12") => `(tactic| skip)
local macro_rules | `(tactic| walk_at "mine pad 13") => `(tactic| skip)
open PySem PySem.W PySem.Calls PySem.Spec PyProof.Rows
set_option Elab.async false
set_option maxRecDepth 100000
set_option maxHeartbeats 4000000
namespace Mine
section
open Builtin Builtin.Str
variable {prog : Program} {w : World} {A : Around} {E : Value → Shared → Prop} {s : Shared}
theorem field_num {id : String} {a : Array Value} {byName : PySem.Str → Sem Value} {v : Value} {num : Numbering} {d i : Nat} {Q : Value × Numbering → Shared → Prop} (hd : (d = 48 ∧ i = 0) ∨ (d = 49 ∧ i = 1)) (hn : num = .unset ∨ num = .manual) (ha : a[i]? = some v)
    (h : Q (v, .manual) s) : wpAny (model prog w) A (fieldObject id (some a) byName [d] num) Q E s := by
  rcases hd with ⟨rfl, rfl⟩ | ⟨rfl, rfl⟩ <;> rcases hn with rfl | rfl <;>
  · unfold fieldObject
    first
      | refine wpAny_bind (wpAny_pure ?_)
      | refine wpAny_bind (wpAny_of_eq (a := some _) rfl ?_)
    first
      | refine wpAny_bind (wpAny_pure ?_)
      | refine wpAny_bind (wpAny_of_eq (a := (some _, .manual)) rfl ?_)
    simp only [ha, pure_bind]
    rw [KPc.range_list]
    exact wpAny_bind (wpAny_pure (wpAny_pure h))
end
local macro_rules | `(tactic| kfm_field) => `(tactic| (
  refine wpAny_bind (field_num (by first | exact .inl ⟨rfl, rfl⟩ | exact .inr ⟨rfl, rfl⟩) (by first | exact .inl rfl | exact .inr rfl) (by rfl) ?_)
  refine wpAny_bind (wpAny_holding (wpAny_of_eq (a := _) rfl ?_))
  kpc_if
  refine wpAny_bind (wpAny_pure ?_)
  kfm_val
  refine wpAny_bind (wpAny_of_eq (a := some _) rfl ?_)
  refine wpAny_pure ?_
  refine KFm.after_field (by kpc_g) (by kpc_text) (by kpc_obj) (by kfm_len) (by kpc_obj) (by kfm_cat2) (by kfm_rest) ?_
  intro _ _))
theorem fmt_q {prog : Program} {w : World} {A : Around} {E : Value → Shared → Prop} {s : Shared} {Q : Value → Shared → Prop} {x : Str} {t u : Tok} (hx : x.length ≤ 1000)
   (h : ∀ t' k, Q (.str (Str.ofString "'" ++ x ++ Str.ofString "'") t') { s with toks := k }) : wpAny (model prog w) A (call (Value.builtin "str.format") [.str (Str.ofString "'{0}'") t, .str x u]) Q E s := by
  refine' KFm.call_k ?kfmF ?kfmg ?kfmm ?_; (case kfmF => kfm_eq); (case kfmg => kfm_args); (case kfmm => k_dflt kfm_run)
  exact h
theorem fmt_m {prog : Program} {w : World} {A : Around} {E : Value → Shared → Prop} {s : Shared} {Q : Value → Shared → Prop} {x : Str} {t u : Tok} (hx : x.length ≤ 1000)
   (h : ∀ t' k, Q (.str (x ++ Str.ofString " is not a valid coordinate or range") t') { s with toks := k }) : wpAny (model prog w) A (call (Value.builtin "str.format") [.str (Str.ofString "{0} is not a valid coordinate or range") t, .str x u]) Q E s := by
  refine' KFm.call_k ?kfmF ?kfmg ?kfmm ?_; (case kfmF => kfm_eq); (case kfmg => kfm_args); (case kfmm => k_dflt kfm_run)
  exact h
theorem fmt_2 {prog : Program} {w : World} {A : Around} {E : Value → Shared → Prop} {s : Shared} {Q : Value → Shared → Prop} {x : Str} {n : Int} {t u v : Tok} (hx : x.length ≤ 1000) (h0 : 0 ≤ n) (h1 : n ≤ 1000)
   (h : ∀ t' k, Q (.str (x ++ Str.ofString (toString n)) t') { s with toks := k }) : wpAny (model prog w) A (call (Value.builtin "str.format") [.str (Str.ofString "{0}{1}") t, .str x u, .int n v]) Q E s := by
  refine' KFm.call_k ?kfmF ?kfmg ?kfmm ?_; (case kfmF => kfm_eq); (case kfmg => exact KFm.args_3 _ _ _); (case kfmm => k_dflt kfm_run)
  exact h
end Mine
end
section
open PySem PySem.W PySem.Calls PySem.Spec PyProof.Rows
set_option Elab.async false
set_option maxRecDepth 100000
set_option maxHeartbeats 4000000
set_option linter.unusedVariables false
namespace Mine
local macro_rules | `(tactic| walk_at "call builtin:str.format") => `(tactic| ((with_reducible show wpAny _ _ (call (Value.builtin "str.format") [Value.str _ _, Value.str _ _]) _ _ _); with_unfolding_all refine fmt_m (by omega) ?_; intro _ _))
local macro_rules | `(tactic| walk_at "getMethod ref") => `(tactic| ((with_reducible show wpAny _ _ (getMethod (Value.ref _) (Str.ofString "match") _) _ _ _); refine pat_method ((patA (by assumption)).keep (Fr.keep (by assumption))) ?_))
local macro_rules | `(tactic| walk_at "call builtin:re.Pattern.match") => `(tactic| ((with_reducible show wpAny _ _ (call (Value.builtin "re.Pattern.match") [Value.ref _, Value.str _ _]) _ _ _); refine match_F (by k_asm) (by k_asm) ((patA (by assumption)).keep (Fr.keep (by assumption))) (by assumption) (by decide) ?_; intro T' M' li' h' F' N' l1 l2 l3; (try k_lt l1)))
local macro_rules | `(tactic| walk_at "call builtin:all") => `(tactic| ((with_reducible show wpAny _ _ (call (Value.builtin "all") [Value.ref _]) _ _ _); k_dflt (refine' all_l ?a ?b ?c ?d ?e ?_; (case a => k_asm); (case b => k_asm); (case c => rfl); (case d => k_mem); (case e => (repeat (first | exact trivial | refine And.intro ns_none ?_ | refine And.intro (ns_str (by assumption) (by omega)) ?_)))); intro h' tk' F' N'; (try dsimp only [List.map, nsb, List.all, List.any, id, Bool.and_true, Bool.and_false, Bool.or_false, Bool.or_true])))
local macro_rules | `(tactic| walk_at "call builtin:any") => `(tactic| ((with_reducible show wpAny _ _ (call (Value.builtin "any") [Value.ref _]) _ _ _); k_dflt (refine' any_l ?a ?b ?c ?d ?e ?_; (case a => k_asm); (case b => k_asm); (case c => rfl); (case d => k_mem); (case e => (repeat (first | exact trivial | refine And.intro ns_none ?_ | refine And.intro (ns_str (by assumption) (by omega)) ?_)))); intro h' tk' F' N'; (try dsimp only [List.map, nsb, List.all, List.any, id, Bool.and_true, Bool.and_false, Bool.or_false, Bool.or_true])))
theorem rsn_nilx {base G : Heap} {l : List Env} {e : Addr} {cls : Value} {news : List (Addr × Obj)} {h : Heap} (R : RaisedSN base G l e cls news h) : RaisedSN base G l e cls [] h := by
  obtain ⟨B, a0, hB, hBG, hl, hfl⟩ := R
  exact ⟨B, a0, hB, hBG, fun _ hq => absurd hq List.not_mem_nil, hfl⟩
local macro_rules | `(tactic| walk_at "truthy str") => `(tactic| (k_dflt (refine truthy_s (by assumption) (by omega) ?_); intro k'))
local macro_rules | `(tactic| walk_at "execs nil") => `(tactic| (k_here; (refine gen_pos (by omega) ?_); intro tk' tp'; (with_reducible refine wpAny_execs_nil ?_); try dsimp only))
local macro_rules | `(tactic| walk_at "execs cons") => `(tactic| (k_here; (refine gen_pos (by omega) ?_); intro tk' tp'; (with_reducible refine wpAny_execs_cons ?_); try dsimp only))
local macro_rules | `(tactic| walk_at "truthy ref") => `(tactic| (refine mat_truthy (by k_asm) (by k_mem) ?_))
local macro_rules | `(tactic| walk_at "getMethod ref") => `(tactic| ((with_reducible show wpAny _ _ (getMethod (Value.ref _) (Str.ofString "groups") _) _ _ _); k_dflt (refine mat_method (by k_asm) (by k_mem) slot_groups type_groups ?_)))
local macro_rules | `(tactic| walk_at "call builtin:re.Match.groups") => `(tactic| (refine groups5 (by k_asm) (by k_asm) (by k_mem) (by k_mem) (by assumption) (by assumption) ?_; (intro t1' t2' t3' t4' t5' D' h' k' F' N' l1); (try dsimp only [strOr] at N'); (try k_lt l1)))
local macro_rules | `(tactic| walk_at "call ref") => `(tactic| ((with_reducible show wpAny _ _ (call (Value.ref 66) [Value.str _ _] _) _ _ _); (rename Fr _ _ _ _ => lF'); (rename News _ _ _ _ => lN'); k_dflt (refine' ci_c ?a ?b ?c ?d ?e ?_; (case a => exact ext_in (by assumption) (fr_ext lF')); (case b => exact ext_read (by assumption) (fr_ext lF')); (case c => (dsimp only [Around.deeper]; omega)); (case d => (dsimp only [Around.deeper]; omega)); (case e => assumption)); intro h' tk' t' p' x'; (have F' := Fr.keeps lF' x'); (have N' := News.grown lN' x'); clear lF' lN' x'))
theorem rb_x1 : ∀ {w : World} {mg mb : Str → Option Value} {d u : Nat} {base : Heap} {outer : List Env} {gd : Option (List Code)} {s : Shared} {Q E : Value → Shared → Prop} {x a z a' b' : Str} {ca ca' rb' : Int} {v : Nat → Option Nat} {t : Tok}
    (X : (Mine.hd.heap_39 w.params).In s.heap) (T : TopRead Mine.hd.view_39 LO mg mb s.heap) (B : Below ⟨none, d, some outer, gd, u⟩ base outer s.heap) (D : KtsDicts (outer.filterMap (·.frame)) s.heap)
    (hd : d + 16 < recursionLimit) (hu : u + 200 < cLine) (hx : x.length ≤ 1000) (hx2 : x.cps.size ≤ 1000)
    (f : Fit Rx.codeA 5 200 x v x.cps.size) (ho : (List.range 5).map (grp v x) = [some a, none, some z, some a', some b']) (hca : ColOf a ca) (hka : a.cps.size ≠ 0) (hja : a.cps.size ≤ 3) (hca' : ColOf a' ca') (hka' : a'.cps.size ≠ 0) (hja' : a'.cps.size ≤ 3) (hrb' : PySem.intText? b' = some rb') (hlb' : b'.length ≤ 600) (hmb' : b'.cps.size ≤ 600) (hzb' : b'.cps.size ≠ 0) (hs : z.cps.size ≠ 0) (hs2 : z.cps.size ≤ 100)
    (ret : ∀ h' tk' e, RaisedSN base s.heap outer e (.type "ValueError") [] h' → s.heap.UpToSlots h' → E (.ref e) { s with heap := h', toks := tk' }),
    wpAny (model PySem.Challenge.rw_ez0208_01.row.prog w) ⟨none, d, some outer, gd, u⟩ (call (.ref 73) [.str x t] []) Q E s := by
  k_fill
  intro w mg mb d u base outer gd s Q E x a z a' b' ca ca' rb' v t X T B D hd hu hx hx2 f ho hca hka hja hca' hka' hja' hrb' hlb' hmb' hzb' hs hs2 ret
  k_dflt (refine' enterK (args := ⟨[.str x t], []⟩) X T ?k1 ?k2 ?k3 ?k4 ?k5 ?_ ?c1 ?c2 ?c3 ?c4; (case k1 => k_is); (case k2 => k_is); (case k3 => (dsimp only; omega)); (case k4 => exact BindsTo.of_eq rfl); (case k5 => exact locs rfl); (case c1 => rfl); (case c2 => rfl); (case c3 => rfl); (case c4 => decide); k_whole)
  intro L' h' F' N'
  (try dsimp only)
  (try k_fold)
  k_steps
  all_goals (
    (with_reducible rename RaisedSN _ _ _ _ _ _ _ => R9)
    (with_reducible rename Heap.UpToSlots _ _ => U9)
    exact ret _ _ _ (rsn_nilx R9) U9)
theorem rb_x2 : ∀ {w : World} {mg mb : Str → Option Value} {d u : Nat} {base : Heap} {outer : List Env} {gd : Option (List Code)} {s : Shared} {Q E : Value → Shared → Prop} {x a b z b' : Str} {ca rb rb' : Int} {v : Nat → Option Nat} {t : Tok}
    (X : (Mine.hd.heap_39 w.params).In s.heap) (T : TopRead Mine.hd.view_39 LO mg mb s.heap) (B : Below ⟨none, d, some outer, gd, u⟩ base outer s.heap) (D : KtsDicts (outer.filterMap (·.frame)) s.heap)
    (hd : d + 16 < recursionLimit) (hu : u + 200 < cLine) (hx : x.length ≤ 1000) (hx2 : x.cps.size ≤ 1000)
    (f : Fit Rx.codeA 5 200 x v x.cps.size) (ho : (List.range 5).map (grp v x) = [some a, some b, some z, none, some b']) (hca : ColOf a ca) (hka : a.cps.size ≠ 0) (hja : a.cps.size ≤ 3) (hrb : PySem.intText? b = some rb) (hlb : b.length ≤ 600) (hmb : b.cps.size ≤ 600) (hzb : b.cps.size ≠ 0) (hrb' : PySem.intText? b' = some rb') (hlb' : b'.length ≤ 600) (hmb' : b'.cps.size ≤ 600) (hzb' : b'.cps.size ≠ 0) (hs : z.cps.size ≠ 0) (hs2 : z.cps.size ≤ 100)
    (ret : ∀ h' tk' e, RaisedSN base s.heap outer e (.type "ValueError") [] h' → s.heap.UpToSlots h' → E (.ref e) { s with heap := h', toks := tk' }),
    wpAny (model PySem.Challenge.rw_ez0208_01.row.prog w) ⟨none, d, some outer, gd, u⟩ (call (.ref 73) [.str x t] []) Q E s := by
  k_fill
  intro w mg mb d u base outer gd s Q E x a b z b' ca rb rb' v t X T B D hd hu hx hx2 f ho hca hka hja hrb hlb hmb hzb hrb' hlb' hmb' hzb' hs hs2 ret
  k_dflt (refine' enterK (args := ⟨[.str x t], []⟩) X T ?k1 ?k2 ?k3 ?k4 ?k5 ?_ ?c1 ?c2 ?c3 ?c4; (case k1 => k_is); (case k2 => k_is); (case k3 => (dsimp only; omega)); (case k4 => exact BindsTo.of_eq rfl); (case k5 => exact locs rfl); (case c1 => rfl); (case c2 => rfl); (case c3 => rfl); (case c4 => decide); k_whole)
  intro L' h' F' N'
  (try dsimp only)
  (try k_fold)
  k_steps
  all_goals (
    (with_reducible rename RaisedSN _ _ _ _ _ _ _ => R9)
    (with_reducible rename Heap.UpToSlots _ _ => U9)
    exact ret _ _ _ (rsn_nilx R9) U9)
theorem rb_x3 : ∀ {w : World} {mg mb : Str → Option Value} {d u : Nat} {base : Heap} {outer : List Env} {gd : Option (List Code)} {s : Shared} {Q E : Value → Shared → Prop} {x b z a' : Str} {ca' rb : Int} {v : Nat → Option Nat} {t : Tok}
    (X : (Mine.hd.heap_39 w.params).In s.heap) (T : TopRead Mine.hd.view_39 LO mg mb s.heap) (B : Below ⟨none, d, some outer, gd, u⟩ base outer s.heap) (D : KtsDicts (outer.filterMap (·.frame)) s.heap)
    (hd : d + 16 < recursionLimit) (hu : u + 200 < cLine) (hx : x.length ≤ 1000) (hx2 : x.cps.size ≤ 1000)
    (f : Fit Rx.codeA 5 200 x v x.cps.size) (ho : (List.range 5).map (grp v x) = [none, some b, some z, some a', none]) (hca' : ColOf a' ca') (hka' : a'.cps.size ≠ 0) (hja' : a'.cps.size ≤ 3) (hrb : PySem.intText? b = some rb) (hlb : b.length ≤ 600) (hmb : b.cps.size ≤ 600) (hzb : b.cps.size ≠ 0) (hs : z.cps.size ≠ 0) (hs2 : z.cps.size ≤ 100)
    (ret : ∀ h' tk' e, RaisedSN base s.heap outer e (.type "ValueError") [] h' → s.heap.UpToSlots h' → E (.ref e) { s with heap := h', toks := tk' }),
    wpAny (model PySem.Challenge.rw_ez0208_01.row.prog w) ⟨none, d, some outer, gd, u⟩ (call (.ref 73) [.str x t] []) Q E s := by
  k_fill
  intro w mg mb d u base outer gd s Q E x b z a' ca' rb v t X T B D hd hu hx hx2 f ho hca' hka' hja' hrb hlb hmb hzb hs hs2 ret
  k_dflt (refine' enterK (args := ⟨[.str x t], []⟩) X T ?k1 ?k2 ?k3 ?k4 ?k5 ?_ ?c1 ?c2 ?c3 ?c4; (case k1 => k_is); (case k2 => k_is); (case k3 => (dsimp only; omega)); (case k4 => exact BindsTo.of_eq rfl); (case k5 => exact locs rfl); (case c1 => rfl); (case c2 => rfl); (case c3 => rfl); (case c4 => decide); k_whole)
  intro L' h' F' N'
  (try dsimp only)
  (try k_fold)
  k_steps
  all_goals (
    (with_reducible rename RaisedSN _ _ _ _ _ _ _ => R9)
    (with_reducible rename Heap.UpToSlots _ _ => U9)
    exact ret _ _ _ (rsn_nilx R9) U9)
end Mine
end
section
local macro_rules | `(tactic| walk_at "mine pad 0") => `(tactic| skip)
local macro_rules | `(tactic| walk_at "mine pad 1") => `(tactic| skip)
local macro_rules | `(tactic| walk_at "mine pad 2") => `(tactic| skip)
local macro_rules | `(tactic| walk_at "mine pad 3") => `(tactic| skip)
local macro_rules | `(tactic| walk_at "mine pad 4") => `(tactic| skip)
local macro_rules | `(tactic| walk_at "mine pad 5") => `(tactic| skip)
local macro_rules | `(tactic| walk_at "mine pad 6") => `(tactic| skip)
local macro_rules | `(tactic| walk_at "mine pad 7") => `(tactic| skip)
local macro_rules | `(tactic| walk_at "mine pad 8") => `(tactic| skip)
local macro_rules | `(tactic| walk_at "mine pad 9") => `(tactic| skip)
local macro_rules | `(tactic| walk_at "mine pad 10") => `(tactic| skip)
local macro_rules | `(tactic| walk_at "mine pad 11") => `(tactic| skip)
local macro_rules | `(tactic| walk_at "mine pad 12") => `(tactic| skip)
local macro_rules | `(tactic| walk_at "mine pad 13") => `(tactic| skip)
open PySem PySem.W PySem.Calls PySem.Spec PyProof.Rows
set_option Elab.async false
set_option maxRecDepth 100000
set_option maxHeartbeats 4000000
set_option linter.unusedVariables false
namespace Mine
local macro_rules | `(tactic| walk_at "call builtin:str.format") => `(tactic| ((with_reducible show wpAny _ _ (call (Value.builtin "str.format") [Value.str _ _, Value.str _ _]) _ _ _); with_unfolding_all refine fmt_m (by omega) ?_; intro _ _))
local macro_rules | `(tactic| walk_at "getMethod ref") => `(tactic| ((with_reducible show wpAny _ _ (getMethod (Value.ref _) (Str.ofString "match") _) _ _ _); refine pat_method ((patA (by assumption)).keep (Fr.keep (by assumption))) ?_))
local macro_rules | `(tactic| walk_at "call builtin:re.Pattern.match") => `(tactic| ((with_reducible show wpAny _ _ (call (Value.builtin "re.Pattern.match") [Value.ref _, Value.str _ _]) _ _ _); refine match_F (by k_asm) (by k_asm) ((patA (by assumption)).keep (Fr.keep (by assumption))) (by assumption) (by decide) ?_; intro T' M' li' h' F' N' l1 l2 l3; (try k_lt l1)))
local macro_rules | `(tactic| walk_at "call builtin:all") => `(tactic| ((with_reducible show wpAny _ _ (call (Value.builtin "all") [Value.ref _]) _ _ _); k_dflt (refine' all_l ?a ?b ?c ?d ?e ?_; (case a => k_asm); (case b => k_asm); (case c => rfl); (case d => k_mem); (case e => (repeat (first | exact trivial | refine And.intro ns_none ?_ | refine And.intro (ns_str (by assumption) (by omega)) ?_)))); intro h' tk' F' N'; (try dsimp only [List.map, nsb, List.all, List.any, id, Bool.and_true, Bool.and_false, Bool.or_false, Bool.or_true])))
local macro_rules | `(tactic| walk_at "call builtin:any") => `(tactic| ((with_reducible show wpAny _ _ (call (Value.builtin "any") [Value.ref _]) _ _ _); k_dflt (refine' any_l ?a ?b ?c ?d ?e ?_; (case a => k_asm); (case b => k_asm); (case c => rfl); (case d => k_mem); (case e => (repeat (first | exact trivial | refine And.intro ns_none ?_ | refine And.intro (ns_str (by assumption) (by omega)) ?_)))); intro h' tk' F' N'; (try dsimp only [List.map, nsb, List.all, List.any, id, Bool.and_true, Bool.and_false, Bool.or_false, Bool.or_true])))
theorem rsn_nil {base G : Heap} {l : List Env} {e : Addr} {cls : Value} {news : List (Addr × Obj)} {h : Heap} (R : RaisedSN base G l e cls news h) : RaisedSN base G l e cls [] h := by
  obtain ⟨B, a0, hB, hBG, hl, hfl⟩ := R
  exact ⟨B, a0, hB, hBG, fun _ hq => absurd hq List.not_mem_nil, hfl⟩
local macro_rules | `(tactic| walk_at "truthy str") => `(tactic| (k_dflt (refine truthy_s (by assumption) (by omega) ?_); intro k'))
local macro_rules | `(tactic| walk_at "execs nil") => `(tactic| (k_here; (refine gen_pos (by omega) ?_); intro tk' tp'; (with_reducible refine wpAny_execs_nil ?_); try dsimp only))
local macro_rules | `(tactic| walk_at "execs cons") => `(tactic| (k_here; (refine gen_pos (by omega) ?_); intro tk' tp'; (with_reducible refine wpAny_execs_cons ?_); try dsimp only))
local macro_rules | `(tactic| walk_at "truthy ref") => `(tactic| (refine mat_truthy (by k_asm) (by k_mem) ?_))
local macro_rules | `(tactic| walk_at "getMethod ref") => `(tactic| ((with_reducible show wpAny _ _ (getMethod (Value.ref _) (Str.ofString "groups") _) _ _ _); k_dflt (refine mat_method (by k_asm) (by k_mem) slot_groups type_groups ?_)))
local macro_rules | `(tactic| walk_at "call builtin:re.Match.groups") => `(tactic| (refine groups5 (by k_asm) (by k_asm) (by k_mem) (by k_mem) (by assumption) (by assumption) ?_; (intro t1' t2' t3' t4' t5' D' h' k' F' N' l1); (try dsimp only [strOr] at N'); (try k_lt l1)))
local macro_rules | `(tactic| walk_at "call ref") => `(tactic| ((with_reducible show wpAny _ _ (call (Value.ref 66) [Value.str _ _] _) _ _ _); (rename Fr _ _ _ _ => lF'); (rename News _ _ _ _ => lN'); k_dflt (refine' ci_c ?a ?b ?c ?d ?e ?_; (case a => exact ext_in (by assumption) (fr_ext lF')); (case b => exact ext_read (by assumption) (fr_ext lF')); (case c => (dsimp only [Around.deeper]; omega)); (case d => (dsimp only [Around.deeper]; omega)); (case e => assumption)); intro h' tk' t' p' x'; (have F' := Fr.keeps lF' x'); (have N' := News.grown lN' x'); clear lF' lN' x'))
theorem rb_one : ∀ {w : World} {mg mb : Str → Option Value} {d u : Nat} {fr : Option (List Env)} {gd : Option (List Code)} {s : Shared} {Q E : Value → Shared → Prop} {x a b : Str} {ca rb : Int} {v : Nat → Option Nat} {t : Tok}
    (X : (Mine.hd.heap_39 w.params).In s.heap) (T : TopRead Mine.hd.view_39 LO mg mb s.heap)
    (hd : d + 16 < recursionLimit) (hu : u + 200 < cLine) (hx : x.length ≤ 1000) (hx2 : x.cps.size ≤ 1000)
    (f : Fit Rx.codeA 5 200 x v x.cps.size) (ho : (List.range 5).map (grp v x) = [some a, some b, none, none, none]) (hca : ColOf a ca) (hka : a.cps.size ≠ 0) (hja : a.cps.size ≤ 3) (hrb : PySem.intText? b = some rb) (hlb : b.length ≤ 600) (hmb : b.cps.size ≤ 600) (hzb : b.cps.size ≠ 0)
    (ret : ∀ D h' tk' (t1' t2' t3' t4' : Tok), 0 < tk' → Ext s.heap h' → @LE.le Nat _ s.heap.objs.size D → h'.get? D = some (tupObj [.int ca t1', .int rb t2', .int ca t3', .int rb t4']) → Q (.ref D) { s with heap := h', toks := tk' }),
    wpAny (model PySem.Challenge.rw_ez0208_01.row.prog w) ⟨none, d, fr, gd, u⟩ (call (.ref 73) [.str x t] []) Q E s := by
  k_fill
  intro w mg mb d u fr gd s Q E x a b ca rb v t X T hd hu hx hx2 f ho hca hka hja hrb hlb hmb hzb ret
  k_dflt (refine' enterK (args := ⟨[.str x t], []⟩) X T ?k1 ?k2 ?k3 ?k4 ?k5 ?_ ?c1 ?c2 ?c3 ?c4; (case k1 => k_is); (case k2 => k_is); (case k3 => (dsimp only; omega)); (case k4 => exact BindsTo.of_eq rfl); (case k5 => exact locs rfl); (case c1 => rfl); (case c2 => rfl); (case c3 => rfl); (case c4 => decide); k_whole)
  intro L' h' F' N'
  (try dsimp only)
  (try k_fold)
  k_steps
  all_goals (
    (with_reducible rename Fr _ _ _ _ => F9)
    (with_reducible rename News _ _ _ _ => N9)
    have ab : @LE.le Nat _ s.heap.objs.size L' := F9.above
    (try dsimp only [qk])
    (try dsimp only)
    refine ret _ _ _ _ _ _ _ ?_ (fun b o e => F9.keep b o e) ?_ (N9 _ (.head _)).1 <;> omega)
theorem rb_two : ∀ {w : World} {mg mb : Str → Option Value} {d u : Nat} {fr : Option (List Env)} {gd : Option (List Code)} {s : Shared} {Q E : Value → Shared → Prop} {x a b z a' b' : Str} {ca ca' rb rb' : Int} {v : Nat → Option Nat} {t : Tok}
    (X : (Mine.hd.heap_39 w.params).In s.heap) (T : TopRead Mine.hd.view_39 LO mg mb s.heap)
    (hd : d + 16 < recursionLimit) (hu : u + 200 < cLine) (hx : x.length ≤ 1000) (hx2 : x.cps.size ≤ 1000)
    (f : Fit Rx.codeA 5 200 x v x.cps.size) (ho : (List.range 5).map (grp v x) = [some a, some b, some z, some a', some b']) (hca : ColOf a ca) (hka : a.cps.size ≠ 0) (hja : a.cps.size ≤ 3) (hca' : ColOf a' ca') (hka' : a'.cps.size ≠ 0) (hja' : a'.cps.size ≤ 3) (hrb : PySem.intText? b = some rb) (hlb : b.length ≤ 600) (hmb : b.cps.size ≤ 600) (hzb : b.cps.size ≠ 0) (hrb' : PySem.intText? b' = some rb') (hlb' : b'.length ≤ 600) (hmb' : b'.cps.size ≤ 600) (hzb' : b'.cps.size ≠ 0) (hs : z.cps.size ≠ 0) (hs2 : z.cps.size ≤ 100)
    (ret : ∀ D h' tk' (t1' t2' t3' t4' : Tok), 0 < tk' → Ext s.heap h' → @LE.le Nat _ s.heap.objs.size D → h'.get? D = some (tupObj [.int ca t1', .int rb t2', .int ca' t3', .int rb' t4']) → Q (.ref D) { s with heap := h', toks := tk' }),
    wpAny (model PySem.Challenge.rw_ez0208_01.row.prog w) ⟨none, d, fr, gd, u⟩ (call (.ref 73) [.str x t] []) Q E s := by
  k_fill
  intro w mg mb d u fr gd s Q E x a b z a' b' ca ca' rb rb' v t X T hd hu hx hx2 f ho hca hka hja hca' hka' hja' hrb hlb hmb hzb hrb' hlb' hmb' hzb' hs hs2 ret
  k_dflt (refine' enterK (args := ⟨[.str x t], []⟩) X T ?k1 ?k2 ?k3 ?k4 ?k5 ?_ ?c1 ?c2 ?c3 ?c4; (case k1 => k_is); (case k2 => k_is); (case k3 => (dsimp only; omega)); (case k4 => exact BindsTo.of_eq rfl); (case k5 => exact locs rfl); (case c1 => rfl); (case c2 => rfl); (case c3 => rfl); (case c4 => decide); k_whole)
  intro L' h' F' N'
  (try dsimp only)
  (try k_fold)
  k_steps
  all_goals (
    (with_reducible rename Fr _ _ _ _ => F9)
    (with_reducible rename News _ _ _ _ => N9)
    have ab : @LE.le Nat _ s.heap.objs.size L' := F9.above
    (try dsimp only [qk])
    (try dsimp only)
    refine ret _ _ _ _ _ _ _ ?_ (fun b o e => F9.keep b o e) ?_ (N9 _ (.head _)).1 <;> omega)
theorem rb_cols : ∀ {w : World} {mg mb : Str → Option Value} {d u : Nat} {fr : Option (List Env)} {gd : Option (List Code)} {s : Shared} {Q E : Value → Shared → Prop} {x a z a' : Str} {ca ca' : Int} {v : Nat → Option Nat} {t : Tok}
    (X : (Mine.hd.heap_39 w.params).In s.heap) (T : TopRead Mine.hd.view_39 LO mg mb s.heap)
    (hd : d + 16 < recursionLimit) (hu : u + 200 < cLine) (hx : x.length ≤ 1000) (hx2 : x.cps.size ≤ 1000)
    (f : Fit Rx.codeA 5 200 x v x.cps.size) (ho : (List.range 5).map (grp v x) = [some a, none, some z, some a', none]) (hca : ColOf a ca) (hka : a.cps.size ≠ 0) (hja : a.cps.size ≤ 3) (hca' : ColOf a' ca') (hka' : a'.cps.size ≠ 0) (hja' : a'.cps.size ≤ 3)  (hs : z.cps.size ≠ 0) (hs2 : z.cps.size ≤ 100)
    (ret : ∀ D h' tk' (t1' t3' : Tok), 0 < tk' → Ext s.heap h' → @LE.le Nat _ s.heap.objs.size D → h'.get? D = some (tupObj [.int ca t1', .none, .int ca' t3', .none]) → Q (.ref D) { s with heap := h', toks := tk' }),
    wpAny (model PySem.Challenge.rw_ez0208_01.row.prog w) ⟨none, d, fr, gd, u⟩ (call (.ref 73) [.str x t] []) Q E s := by
  k_fill
  intro w mg mb d u fr gd s Q E x a z a' ca ca' v t X T hd hu hx hx2 f ho hca hka hja hca' hka' hja'  hs hs2 ret
  k_dflt (refine' enterK (args := ⟨[.str x t], []⟩) X T ?k1 ?k2 ?k3 ?k4 ?k5 ?_ ?c1 ?c2 ?c3 ?c4; (case k1 => k_is); (case k2 => k_is); (case k3 => (dsimp only; omega)); (case k4 => exact BindsTo.of_eq rfl); (case k5 => exact locs rfl); (case c1 => rfl); (case c2 => rfl); (case c3 => rfl); (case c4 => decide); k_whole)
  intro L' h' F' N'
  (try dsimp only)
  (try k_fold)
  k_steps
  all_goals (
    (with_reducible rename Fr _ _ _ _ => F9)
    (with_reducible rename News _ _ _ _ => N9)
    have ab : @LE.le Nat _ s.heap.objs.size L' := F9.above
    (try dsimp only [qk])
    (try dsimp only)
    refine ret _ _ _ _ _ ?_ (fun b o e => F9.keep b o e) ?_ (N9 _ (.head _)).1 <;> omega)
theorem rb_rows : ∀ {w : World} {mg mb : Str → Option Value} {d u : Nat} {fr : Option (List Env)} {gd : Option (List Code)} {s : Shared} {Q E : Value → Shared → Prop} {x b z b' : Str} {rb rb' : Int} {v : Nat → Option Nat} {t : Tok}
    (X : (Mine.hd.heap_39 w.params).In s.heap) (T : TopRead Mine.hd.view_39 LO mg mb s.heap)
    (hd : d + 16 < recursionLimit) (hu : u + 200 < cLine) (hx : x.length ≤ 1000) (hx2 : x.cps.size ≤ 1000)
    (f : Fit Rx.codeA 5 200 x v x.cps.size) (ho : (List.range 5).map (grp v x) = [none, some b, some z, none, some b'])  (hrb : PySem.intText? b = some rb) (hlb : b.length ≤ 600) (hmb : b.cps.size ≤ 600) (hzb : b.cps.size ≠ 0) (hrb' : PySem.intText? b' = some rb') (hlb' : b'.length ≤ 600) (hmb' : b'.cps.size ≤ 600) (hzb' : b'.cps.size ≠ 0) (hs : z.cps.size ≠ 0) (hs2 : z.cps.size ≤ 100)
    (ret : ∀ D h' tk' (t2' t4' : Tok), 0 < tk' → Ext s.heap h' → @LE.le Nat _ s.heap.objs.size D → h'.get? D = some (tupObj [.none, .int rb t2', .none, .int rb' t4']) → Q (.ref D) { s with heap := h', toks := tk' }),
    wpAny (model PySem.Challenge.rw_ez0208_01.row.prog w) ⟨none, d, fr, gd, u⟩ (call (.ref 73) [.str x t] []) Q E s := by
  k_fill
  intro w mg mb d u fr gd s Q E x b z b' rb rb' v t X T hd hu hx hx2 f ho  hrb hlb hmb hzb hrb' hlb' hmb' hzb' hs hs2 ret
  k_dflt (refine' enterK (args := ⟨[.str x t], []⟩) X T ?k1 ?k2 ?k3 ?k4 ?k5 ?_ ?c1 ?c2 ?c3 ?c4; (case k1 => k_is); (case k2 => k_is); (case k3 => (dsimp only; omega)); (case k4 => exact BindsTo.of_eq rfl); (case k5 => exact locs rfl); (case c1 => rfl); (case c2 => rfl); (case c3 => rfl); (case c4 => decide); k_whole)
  intro L' h' F' N'
  (try dsimp only)
  (try k_fold)
  k_steps
  all_goals (
    (with_reducible rename Fr _ _ _ _ => F9)
    (with_reducible rename News _ _ _ _ => N9)
    have ab : @LE.le Nat _ s.heap.objs.size L' := F9.above
    (try dsimp only [qk])
    (try dsimp only)
    refine ret _ _ _ _ _ ?_ (fun b o e => F9.keep b o e) ?_ (N9 _ (.head _)).1 <;> omega)
end Mine
end
section
open PySem PySem.W PySem.Calls PySem.Spec PyProof.Rows
set_option Elab.async false
set_option maxRecDepth 100000
set_option maxHeartbeats 4000000
set_option linter.unusedVariables false
namespace Mine
def iv : Option Int → Tok → Value
  | none, _ => .none
  | some i, t => .int i t
structure Cel (a : Str) (c : Int) : Prop where
  col : ColOf a c
  k : a.cps.size ≠ 0
  j : a.cps.size ≤ 3
structure Row (b : Str) (r : Int) : Prop where
  val : PySem.intText? b = some r
  l : b.length ≤ 600
  m : b.cps.size ≤ 600
  z : b.cps.size ≠ 0
/-- the text's five groups -/
structure Grp (x : Str) (os : List (Option Str)) : Prop where
  h1 : x.length ≤ 1000
  h2 : x.cps.size ≤ 1000
  f : ∃ v, Fit Rx.codeA 5 200 x v x.cps.size ∧ (List.range 5).map (grp v x) = os
inductive Bounds (x : Str) : Option Int → Option Int → Option Int → Option Int → Prop
  | one {a b c r} : Grp x [some a, some b, none, none, none] → Cel a c → Row b r → Bounds x (some c) (some r) (some c) (some r)
  | two {a b z a' b' c r c' r'} : Grp x [some a, some b, some z, some a', some b'] → z.cps.size ≠ 0 → z.cps.size ≤ 100 → Cel a c → Row b r → Cel a' c' → Row b' r' → Bounds x (some c) (some r) (some c') (some r')
  | cols {a z a' c c'} : Grp x [some a, none, some z, some a', none] → z.cps.size ≠ 0 → z.cps.size ≤ 100 → Cel a c → Cel a' c' → Bounds x (some c) none (some c') none
  | rows {b z b' r r'} : Grp x [none, some b, some z, none, some b'] → z.cps.size ≠ 0 → z.cps.size ≤ 100 → Row b r → Row b' r' → Bounds x none (some r) none (some r')
theorem rb_c {w : World} {mg mb : Str → Option Value} {d u : Nat} {fr : Option (List Env)} {gd : Option (List Code)} {s : Shared} {Q E : Value → Shared → Prop} {x : Str} {o1 o2 o3 o4 : Option Int} {t : Tok}
    (X : (Mine.hd.heap_39 w.params).In s.heap) (T : TopRead Mine.hd.view_39 LO mg mb s.heap)
    (hd : d + 16 < recursionLimit) (hu : u + 200 < cLine) (hb : Bounds x o1 o2 o3 o4)
    (ret : ∀ D h' tk' (t1 t2 t3 t4 : Tok), 0 < tk' → Ext s.heap h' → @LE.le Nat _ s.heap.objs.size D → h'.get? D = some (tupObj [iv o1 t1, iv o2 t2, iv o3 t3, iv o4 t4]) → Q (.ref D) { s with heap := h', toks := tk' }) :
    wpAny (model PySem.Challenge.rw_ez0208_01.row.prog w) ⟨none, d, fr, gd, u⟩ (call (.ref 73) [.str x t] []) Q E s := by
  cases hb with
  | one g ca rb =>
    obtain ⟨h1, h2, v, f, ho⟩ := g
    exact rb_one X T hd hu h1 h2 f ho ca.col ca.k ca.j rb.val rb.l rb.m rb.z fun D h' tk' t1 t2 t3 t4 => ret D h' tk' t1 t2 t3 t4
  | two g z1 z2 ca rb ca' rb' =>
    obtain ⟨h1, h2, v, f, ho⟩ := g
    exact rb_two X T hd hu h1 h2 f ho ca.col ca.k ca.j ca'.col ca'.k ca'.j rb.val rb.l rb.m rb.z rb'.val rb'.l rb'.m rb'.z z1 z2 fun D h' tk' t1 t2 t3 t4 => ret D h' tk' t1 t2 t3 t4
  | cols g z1 z2 ca ca' =>
    obtain ⟨h1, h2, v, f, ho⟩ := g
    exact rb_cols X T hd hu h1 h2 f ho ca.col ca.k ca.j ca'.col ca'.k ca'.j z1 z2 fun D h' tk' t1 t3 => ret D h' tk' t1 0 t3 0
  | rows g z1 z2 rb rb' =>
    obtain ⟨h1, h2, v, f, ho⟩ := g
    exact rb_rows X T hd hu h1 h2 f ho rb.val rb.l rb.m rb.z rb'.val rb'.l rb'.m rb'.z z1 z2 fun D h' tk' t2 t4 => ret D h' tk' 0 t2 0 t4
end Mine
end
section
open PySem PySem.W PySem.Calls PySem.Spec PyProof.Rows PySem.Builtin PySem.Builtin.Re
set_option Elab.async false
set_option maxRecDepth 100000
set_option maxHeartbeats 4000000
set_option linter.unusedVariables false
namespace Mine
theorem fillK3 : PySem.Challenge.rw_ez0208_01 = PySem.Challenge.rw_ez0208_01 → (∀ P, Mine.hd.heap_39 P = Mine.hd.heap_39 P) := by k_fill; intros; rfl
/-- the index dict of a pattern tells the group's number of this name -/
def Names (w : World) (h : Heap) (idx : Addr) (k : Str) (n : Nat) : Prop := ∃ o es ep v, h.get? idx = some o ∧ o.ExactDict ∧ o.data = .dict es ep ∧ KeysS w es.toList ∧ findBy (fun k => Value.isStrOf k) es k = some v ∧ intVal v = some (n : Int)
theorem names_of {w : World} {K : Frag} {h : Heap} {d : Addr} {o : Obj} {es : Array DictEntry} {ep : Nat} {k : Str} {v : Value} {n : Nat} (X : K.In h) (e : K.lookup d = some o) (a : o.ExactDict) (b : o.data = .dict es ep) (c : KeysS w es.toList) (f : findBy (fun k => Value.isStrOf k) es k = some v) (g : intVal v = some (n : Int)) : Names w h d k n :=
  ⟨o, es, ep, v, X _ _ e, a, b, c, f, g⟩
theorem Names.keep {w : World} {h h' : Heap} {idx : Addr} {k : Str} {n : Nat} (x : Names w h idx k n) (e : ∀ b o, h.get? b = some o → h'.get? b = some o) : Names w h' idx k n := by
  obtain ⟨o, es, ep, v, a, r⟩ := x
  exact ⟨o, es, ep, v, e _ _ a, r⟩
theorem names_quoted {w : World} {h : Heap} (X : (Mine.hd.heap_39 w.params).In h) : Names w h 38 (Str.ofString "quoted") 3 := by
  refine' names_of (v := .int 3 659) X ?k ?a ?b ?c ?d ?e
  case k => k_is
  case a => exact ⟨rfl, rfl, rfl⟩
  case b => exact rfl
  case c => repeat (first | exact trivial | refine And.intro ⟨_, _, rfl, rfl⟩ ?_)
  case d => kernel_rfl
  case e => rfl
theorem names_notquoted {w : World} {h : Heap} (X : (Mine.hd.heap_39 w.params).In h) : Names w h 38 (Str.ofString "notquoted") 5 := by
  refine' names_of (v := .int 5 661) X ?k ?a ?b ?c ?d ?e
  case k => k_is
  case a => exact ⟨rfl, rfl, rfl⟩
  case b => exact rfl
  case c => repeat (first | exact trivial | refine And.intro ⟨_, _, rfl, rfl⟩ ?_)
  case d => kernel_rfl
  case e => rfl
theorem names_cells {w : World} {h : Heap} (X : (Mine.hd.heap_39 w.params).In h) : Names w h 38 (Str.ofString "cells") 6 := by
  refine' names_of (v := .int 6 663) X ?k ?a ?b ?c ?d ?e
  case k => k_is
  case a => exact ⟨rfl, rfl, rfl⟩
  case b => exact rfl
  case c => repeat (first | exact trivial | refine And.intro ⟨_, _, rfl, rfl⟩ ?_)
  case d => kernel_rfl
  case e => rfl
section
variable {prog : Program} {w : World} {A : Around} {E : Value → Shared → Prop} {s : Shared} {h₀ : Heap} {L : Addr} {m : Str → Option Value} {news : List (Addr × Obj)}
theorem wpAny_groupNumber {x : Str} {t tk : Tok} {p idx : Addr} {code : Array Nat} {gs lim : Nat} {li : Int} {T : Addr} {stop n g : Nat} {v : Nat → Option Nat} {k : Str} {Q : Nat → Shared → Prop} (hp : IsPat s.heap p code gs idx) (hN : Names w s.heap idx k (g + 1)) (hg : g < n)
    (h : ∀ k', Q (g + 1) { s with toks := k' }) : wpAny (model prog w) A (reGroupNumber (found x t p lim li T stop v n) (.str k tk)) Q E s := by
  obtain ⟨o, es, ep, val, ho, hx, hd, hk, hf, hv⟩ := hN
  obtain ⟨po, fs, hpo, hc, hdn, hfs, hgs, hi, _⟩ := hp.obj
  unfold reGroupNumber
  refine wpAny_bind (m := asInt? (.str k tk)) (wpAny_of_eq (a := none) rfl ?_)
  simp only [Option.isSome_none, Bool.false_eq_true, if_false]
  refine wpAny_bind (wpAny_specialOf (typeIs_str s k tk) noIndex_str ?_)
  simp only [Option.isSome_none, Bool.false_eq_true, if_false]
  refine wpAny_bind ?_
  show wpAny _ _ (fieldsOf (.ref p)) _ _ _
  refine wpAny_fieldsOf hpo hfs ?_
  rw [hi]
  refine wpAny_bind (dict_get ho hx hd hk hf fun k' => ?_)
  have hval : ∃ tt, val = .int ((g + 1 : Nat) : Int) tt := by
    cases val <;> first | (cases hv; done) | skip
    rename_i i tt
    have : i = ((g + 1 : Nat) : Int) := by simpa [intVal] using hv
    exact ⟨tt, by rw [this]⟩
  obtain ⟨tt, rfl⟩ := hval
  refine wpAny_bind (m := asInt? _) (wpAny_of_eq (a := some ((g + 1 : Nat) : Int)) rfl ?_)
  refine wpAny_bind (wpAny_pure ?_)
  dsimp only [Option.getD_some]
  have h2 : (found x t p lim li T stop v n).spans.size = 2 * n + 2 := by
    have h1 : ∀ l : List Nat, (l.flatMap fun g => (Rx.spans v g).map rawInt).length = 2 * l.length := by
      intro l
      induction l with
      | nil => rfl
      | cons g l ih =>
        rw [List.flatMap_cons, List.length_append, List.length_map, List.length_cons, ih]
        have : (Rx.spans v g).length = 2 := by unfold Rx.spans; cases v (2 * g) <;> cases v (2 * g + 1) <;> rfl
        omega
    have h2 : (spanVals v n).length = 2 * n := by unfold spanVals; rw [h1, List.length_range]
    unfold found
    simp [h2]
  rw [h2]
  have hcond : (decide (((g + 1 : Nat) : Int) < 0) || decide (2 * ((g + 1 : Nat) : Int) ≥ ((2 * n + 2 : Nat) : Int))) = false := by
    rw [decide_eq_false (by omega), decide_eq_false (by omega)]; rfl
  rw [hcond]
  simp only [Bool.false_eq_true, if_false]
  exact wpAny_pure (h k')
theorem group_F {M T p idx : Addr} {code : Array Nat} {gs : Nat} {x : Str} {t tk : Tok} {lim : Nat} {li : Int} {stop n g : Nat} {v : Nat → Option Nat} {k : Str} {o : Option Str} {Q : Value → Shared → Prop} (F : Fr h₀ L s.heap m) (N : News h₀ L s.heap news)
    (hM : (M, matchObj x t p lim li T) ∈ news) (hT : (T, tupObj (rawInt 0 :: rawInt stop :: spanVals v n)) ∈ news) (hp : IsPat s.heap p code gs idx) (hN : Names w s.heap idx k (g + 1)) (hg : g < n) (hx : x.cps.size ≤ 1000) (ho : grp v x g = o)
    (h : ∀ t' k', Q (strOr .none o t') { s with toks := k' }) : wpAny (model prog w) A (call (.builtin "re.Match.group") [.ref M, .str k tk]) Q E s := by
  subst ho
  have hty : s.TypeIs (.ref M) "re.Match" := ⟨_, (N _ hM).1, rfl⟩
  refine wpAny_call_entry slot_group (T := "re.Match") hty entry_group ?_ (args_group _ _)
  unfold Builtin.«re.Match.group»
  refine wpAny_bind (wpAny_of_eq (a := ()) rfl ?_)
  (try dsimp only)
  refine wpAny_bind (wpAny_reFound (N _ hM).1 (N _ hT).1 ?_)
  (try dsimp only)
  refine wpAny_bind (wpAny_groupNumber hp hN hg fun k' => ?_)
  refine wpAny_bind (wpAny_group (s := { s with toks := k' }) hx hg fun k2 => ?_)
  exact wpAny_pure ⟨_, rfl, h _ _⟩
theorem nomatch_F {p idx : Addr} {code : Array Nat} {groups k : Nat} {x : Str} {t : Tok} {Q : Value → Shared → Prop} (hp : IsPat s.heap p code groups idx)
    (he : Rx.Ends k (Sre.forMatch code x.cps groups 0 x.cps.size false false) (fun m' => m'.outcome = some .failed)) (hk : k ≤ 1000000) (hx : x.cps.size ≤ 100000) (h : Q .none s) :
    wpAny (model prog w) A (call (.builtin "re.Pattern.match") [.ref p, .str x t]) Q E s :=
  wpAny_match hp he hk hx fun m' hm => .inr ⟨hm, h⟩
end
end Mine
end
section
open PySem PySem.W PySem.Calls PySem.Spec PyProof.Rows
set_option Elab.async false
set_option maxRecDepth 100000
set_option maxHeartbeats 4000000
set_option linter.unusedVariables false
namespace Mine
local macro_rules | `(tactic| walk_at "execs nil") => `(tactic| (k_here; (refine gen_pos (by omega) ?_); intro tk' tp'; (with_reducible refine wpAny_execs_nil ?_); try dsimp only))
local macro_rules | `(tactic| walk_at "execs cons") => `(tactic| (k_here; (refine gen_pos (by omega) ?_); intro tk' tp'; (with_reducible refine wpAny_execs_cons ?_); try dsimp only))
local macro_rules | `(tactic| walk_at "getMethod ref") => `(tactic| ((with_reducible show wpAny _ _ (getMethod (Value.ref _) (Str.ofString "match") _) _ _ _); refine pat_method ((patS (by assumption)).keep (Fr.keep (by assumption))) ?_))
local macro_rules | `(tactic| walk_at "call builtin:re.Pattern.match") => `(tactic| ((with_reducible show wpAny _ _ (call (Value.builtin "re.Pattern.match") [Value.ref _, Value.str _ _]) _ _ _); refine nomatch_F ((patS (by assumption)).keep (Fr.keep (by assumption))) (by assumption) (by omega) (by omega) ?_))
theorem rsn_nil' {base G : Heap} {l : List Env} {e : Addr} {cls : Value} {news : List (Addr × Obj)} {h : Heap} (R : RaisedSN base G l e cls news h) : RaisedSN base G l e cls [] h := by
  obtain ⟨B, a0, hB, hBG, hl, hfl⟩ := R
  exact ⟨B, a0, hB, hBG, fun _ hq => absurd hq List.not_mem_nil, hfl⟩
theorem rt_none : ∀ {w : World} {mg mb : Str → Option Value} {d u : Nat} {base : Heap} {outer : List Env} {gd : Option (List Code)} {s : Shared} {Q E : Value → Shared → Prop} {x : Str} {t : Tok} {kk : Nat}
    (X : (Mine.hd.heap_39 w.params).In s.heap) (T : TopRead Mine.hd.view_39 LO mg mb s.heap) (B : Below ⟨none, d, some outer, gd, u⟩ base outer s.heap) (D : KtsDicts (outer.filterMap (·.frame)) s.heap)
    (hd : d + 32 < recursionLimit) (hu : u + 400 < cLine) (hx2 : x.cps.size ≤ 1000) (hkk : kk ≤ 100000)
    (f : Rx.Ends kk (Sre.forMatch Rx.codeS x.cps 11 0 x.cps.size false false) (fun m' => m'.outcome = some .failed))
    (ret : ∀ h' tk' e, RaisedSN base s.heap outer e (.type "ValueError") [] h' → s.heap.UpToSlots h' → E (.ref e) { s with heap := h', toks := tk' }),
    wpAny (model PySem.Challenge.rw_ez0208_01.row.prog w) ⟨none, d, some outer, gd, u⟩ (call (.ref 92) [.str x t] []) Q E s := by
  k_fill
  intro w mg mb d u base outer gd s Q E x t kk X T B D hd hu hx2 hkk f ret
  k_dflt (refine' enterK (args := ⟨[.str x t], []⟩) X T ?k1 ?k2 ?k3 ?k4 ?k5 ?_ ?c1 ?c2 ?c3 ?c4; (case k1 => k_is); (case k2 => k_is); (case k3 => (dsimp only; omega)); (case k4 => exact BindsTo.of_eq rfl); (case k5 => exact locs rfl); (case c1 => rfl); (case c2 => rfl); (case c3 => rfl); (case c4 => decide); k_whole)
  intro L' h' F' N'
  (try dsimp only)
  (try k_fold)
  k_steps
  all_goals (
    (with_reducible rename RaisedSN _ _ _ _ _ _ _ => R9)
    (with_reducible rename Heap.UpToSlots _ _ => U9)
    exact ret _ _ _ (rsn_nil' R9) U9)
end Mine
end
section
local macro_rules | `(tactic| walk_at "mine pad 0") => `(tactic| skip)
local macro_rules | `(tactic| walk_at "mine pad 1") => `(tactic| skip)
local macro_rules | `(tactic| walk_at "mine pad 2") => `(tactic| skip)
local macro_rules | `(tactic| walk_at "mine pad 3") => `(tactic| skip)
local macro_rules | `(tactic| walk_at "mine pad 4") => `(tactic| skip)
local macro_rules | `(tactic| walk_at "mine pad 5") => `(tactic| skip)
local macro_rules | `(tactic| walk_at "mine pad 6") => `(tactic| skip)
local macro_rules | `(tactic| walk_at "mine pad 7") => `(tactic| skip)
local macro_rules | `(tactic| walk_at "mine pad 8") => `(tactic| skip)
local macro_rules | `(tactic| walk_at "mine pad 9") => `(tactic| skip)
local macro_rules | `(tactic| walk_at "mine pad 10") => `(tactic| skip)
local macro_rules | `(tactic| walk_at "mine pad 11") => `(tactic| skip)
local macro_rules | `(tactic| walk_at "mine pad 12") => `(tactic| skip)
local macro_rules | `(tactic| walk_at "mine pad 13") => `(tactic| skip)
open PySem PySem.W PySem.Calls PySem.Spec PyProof.Rows
set_option Elab.async false
set_option maxRecDepth 100000
set_option maxHeartbeats 4000000
set_option linter.unusedVariables false
namespace Mine
theorem below_push {d u : Nat} {outer : List Env} {gd : Option (List Code)} {base g h : Heap} {L a : Addr} {m : Str → Option Value} {name : Str} {scope : Scope} {cd : Value} (B : Below ⟨none, d, some outer, gd, u⟩ base outer g) (F : Fr g L h m) (hk : scope.kind = .function) :
    Below ⟨none, d + 1, some (envOf name scope L a cd :: outer), gd, u + 3⟩ base (envOf name scope L a cd :: outer) h := B.push F hk
theorem kts_push {outer : List Env} {g h : Heap} {L a : Addr} {m : Str → Option Value} {name : Str} {scope : Scope} {cd : Value} (D : KtsDicts (outer.filterMap (·.frame)) g) (F : Fr g L h m) : KtsDicts ((envOf name scope L a cd :: outer).filterMap (·.frame)) h := fun b hb => by
  rcases kts_mem hb with rfl | hb
  · obtain ⟨o, es, ep, ho, r⟩ := F.ns
    exact ⟨o, es, ep, ho, r.1⟩
  · obtain ⟨o, es, n, ho, r⟩ := D b hb
    exact ⟨o, es, n, F.keep _ _ ho, r⟩
local macro_rules | `(tactic| walk_at "call ref") => `(tactic| ((with_reducible show wpAny _ _ (call (Value.ref 92) [Value.str _ _] _) _ _ _); (rename Fr _ _ _ _ => lF'); k_dflt (refine rt_none (ext_in (by assumption) (fr_ext lF')) (ext_read (by assumption) (fr_ext lF')) (below_push (by assumption) lF' rfl) (kts_push (by assumption) lF') (by (dsimp only [Around.deeper]; omega)) (by (dsimp only [Around.deeper]; omega)) (by assumption) (by assumption) (by assumption) ?_); intro h' tk' e' R' U'))
theorem refused_rt : ∀ {w : World} {mg mb : Str → Option Value} {mean : ExcName → Option Value} {p9 : Program} {lo9 : List Str} {d u : Nat} {base : Heap} {outer : List Env} {gd : Option (List Code)} {s : Shared} {Q E : Value → Shared → Prop} {x : Str} {t : Tok} {kk : Nat}
    (X : (Mine.hd.heap_39 w.params).In s.heap) (T : TopRead Mine.hd.view_39 LO mg mb s.heap) (XB : (Mine.hd.heap_39 w.params).In base) (TB : Top p9 lo9 mean mg mb base) (B : Below ⟨none, d, some outer, gd, u⟩ base outer s.heap) (D : KtsDicts (outer.filterMap (·.frame)) s.heap)
    (hd : d + 64 < recursionLimit) (hu : u + 800 < cLine) (hx2 : x.cps.size ≤ 1000) (hkk : kk ≤ 100000)
    (f : Rx.Ends kk (Sre.forMatch Rx.codeS x.cps 11 0 x.cps.size false false) (fun m' => m'.outcome = some .failed))
    (ret : ∀ h' tk', (∀ b o, s.heap.get? b = some o → b ∉ outer.filterMap (·.frame) → h'.get? b = some o) → s.heap.UpToSlots h' → Q (.bool true) { s with heap := h', toks := tk' }),
    wpAny (model PySem.Challenge.rw_ez0208_01.row.prog w) ⟨none, d, some outer, gd, u⟩ (call (.ref 127) [.ref 92, .str x t] []) Q E s := by
  k_fill
  intro w mg mb mean p9 lo9 d u base outer gd s Q E x t kk X T XB TB B D hd hu hx2 hkk f ret
  k_dflt (refine' enterK (args := ⟨[.ref 92, .str x t], []⟩) X T ?k1 ?k2 ?k3 ?k4 ?k5 ?_ ?c1 ?c2 ?c3 ?c4; (case k1 => k_is); (case k2 => k_is); (case k3 => (dsimp only; omega)); (case k4 => exact BindsTo.of_eq rfl); (case k5 => exact locs rfl); (case c1 => rfl); (case c2 => rfl); (case c3 => rfl); (case c4 => decide); k_whole)
  intro L' h' F' N'
  (try dsimp only)
  (try k_fold)
  k_steps
  all_goals (
    (with_reducible rename KtsTurn _ _ _ => T9)
    (with_reducible rename Fr _ _ _ _ => F9)
    (try dsimp only [qk])
    (try dsimp only)
    exact ret _ _ (fun b o e nm => F9.keep b o (T9.other b o e nm)) (fun b o e _ => let ⟨sl, hs⟩ := T9.up e; ⟨sl, F9.keep _ _ hs⟩))
end Mine
end
section
open PySem PySem.W PySem.Calls PySem.Spec PyProof.Rows
set_option Elab.async false
set_option maxRecDepth 100000
set_option maxHeartbeats 4000000
set_option linter.unusedVariables false
namespace Mine
/-- texts in which one of the four is missing -/
inductive Lacks (x : Str) : Prop
  | x1 {a z a' b' c c' r'} : Grp x [some a, none, some z, some a', some b'] → z.cps.size ≠ 0 → z.cps.size ≤ 100 → Cel a c → Cel a' c' → Row b' r' → Lacks x
  | x2 {a b z b' c r r'} : Grp x [some a, some b, some z, none, some b'] → z.cps.size ≠ 0 → z.cps.size ≤ 100 → Cel a c → Row b r → Row b' r' → Lacks x
  | x3 {b z a' c' r} : Grp x [none, some b, some z, some a', none] → z.cps.size ≠ 0 → z.cps.size ≤ 100 → Cel a' c' → Row b r → Lacks x
theorem rbx_c {w : World} {mg mb : Str → Option Value} {d u : Nat} {base : Heap} {outer : List Env} {gd : Option (List Code)} {s : Shared} {Q E : Value → Shared → Prop} {x : Str} {t : Tok}
    (X : (Mine.hd.heap_39 w.params).In s.heap) (T : TopRead Mine.hd.view_39 LO mg mb s.heap) (B : Below ⟨none, d, some outer, gd, u⟩ base outer s.heap) (D : KtsDicts (outer.filterMap (·.frame)) s.heap)
    (hd : d + 16 < recursionLimit) (hu : u + 200 < cLine) (hb : Lacks x)
    (ret : ∀ h' tk' e, RaisedSN base s.heap outer e (.type "ValueError") [] h' → s.heap.UpToSlots h' → E (.ref e) { s with heap := h', toks := tk' }) :
    wpAny (model PySem.Challenge.rw_ez0208_01.row.prog w) ⟨none, d, some outer, gd, u⟩ (call (.ref 73) [.str x t] []) Q E s := by
  cases hb with
  | x1 g z1 z2 ca ca' rb' =>
    obtain ⟨h1, h2, v, f, ho⟩ := g
    exact rb_x1 X T B D hd hu h1 h2 f ho ca.col ca.k ca.j ca'.col ca'.k ca'.j rb'.val rb'.l rb'.m rb'.z z1 z2 ret
  | x2 g z1 z2 ca rb rb' =>
    obtain ⟨h1, h2, v, f, ho⟩ := g
    exact rb_x2 X T B D hd hu h1 h2 f ho ca.col ca.k ca.j rb.val rb.l rb.m rb.z rb'.val rb'.l rb'.m rb'.z z1 z2 ret
  | x3 g z1 z2 ca' rb =>
    obtain ⟨h1, h2, v, f, ho⟩ := g
    exact rb_x3 X T B D hd hu h1 h2 f ho ca'.col ca'.k ca'.j rb.val rb.l rb.m rb.z z1 z2 ret
local macro_rules | `(tactic| walk_at "call ref") => `(tactic| ((with_reducible show wpAny _ _ (call (Value.ref 73) [Value.str _ _] _) _ _ _); (rename Fr _ _ _ _ => lF'); k_dflt (refine rbx_c (ext_in (by assumption) (fr_ext lF')) (ext_read (by assumption) (fr_ext lF')) (below_push (by assumption) lF' rfl) (kts_push (by assumption) lF') (by (dsimp only [Around.deeper]; omega)) (by (dsimp only [Around.deeper]; omega)) (by assumption) ?_); intro h' tk' e' R' U'))
theorem refused_rb : ∀ {w : World} {mg mb : Str → Option Value} {mean : ExcName → Option Value} {p9 : Program} {lo9 : List Str} {d u : Nat} {base : Heap} {outer : List Env} {gd : Option (List Code)} {s : Shared} {Q E : Value → Shared → Prop} {x : Str} {t : Tok}
    (X : (Mine.hd.heap_39 w.params).In s.heap) (T : TopRead Mine.hd.view_39 LO mg mb s.heap) (XB : (Mine.hd.heap_39 w.params).In base) (TB : Top p9 lo9 mean mg mb base) (B : Below ⟨none, d, some outer, gd, u⟩ base outer s.heap) (D : KtsDicts (outer.filterMap (·.frame)) s.heap)
    (hd : d + 64 < recursionLimit) (hu : u + 800 < cLine) (hb : Lacks x)
    (ret : ∀ h' tk', (∀ b o, s.heap.get? b = some o → b ∉ outer.filterMap (·.frame) → h'.get? b = some o) → s.heap.UpToSlots h' → Q (.bool true) { s with heap := h', toks := tk' }),
    wpAny (model PySem.Challenge.rw_ez0208_01.row.prog w) ⟨none, d, some outer, gd, u⟩ (call (.ref 127) [.ref 73, .str x t] []) Q E s := by
  k_fill
  intro w mg mb mean p9 lo9 d u base outer gd s Q E x t X T XB TB B D hd hu hb ret
  k_dflt (refine' enterK (args := ⟨[.ref 73, .str x t], []⟩) X T ?k1 ?k2 ?k3 ?k4 ?k5 ?_ ?c1 ?c2 ?c3 ?c4; (case k1 => k_is); (case k2 => k_is); (case k3 => (dsimp only; omega)); (case k4 => exact BindsTo.of_eq rfl); (case k5 => exact locs rfl); (case c1 => rfl); (case c2 => rfl); (case c3 => rfl); (case c4 => decide); k_whole)
  intro L' h' F' N'
  (try dsimp only)
  (try k_fold)
  k_steps
  all_goals (
    (with_reducible rename KtsTurn _ _ _ => T9)
    (with_reducible rename Fr _ _ _ _ => F9)
    (try dsimp only [qk])
    (try dsimp only)
    exact ret _ _ (fun b o e nm => F9.keep b o (T9.other b o e nm)) (fun b o e _ => let ⟨sl, hs⟩ := T9.up e; ⟨sl, F9.keep _ _ hs⟩))
end Mine
end
section
open PySem PySem.W PySem.Calls PySem.Spec PyProof.Rows PySem.Builtin PySem.Builtin.Re
set_option Elab.async false
set_option maxRecDepth 100000
set_option maxHeartbeats 4000000
set_option linter.unusedVariables false
namespace Mine
theorem fillK4 : PySem.Challenge.rw_ez0208_01 = PySem.Challenge.rw_ez0208_01 → (∀ P, Mine.hd.heap_39 P = Mine.hd.heap_39 P) := by k_fill; intros; rfl
/-- the index dict's entries -/
def Idx4 (h : Heap) (idx : Addr) (k1 k2 k3 k4 : Str) : Prop :=
  ∃ o es ep e1 e2 e3 e4 t1 t2 t3 t4, h.get? idx = some o ∧ o.data = .dict es ep ∧ es.toList = [e1, e2, e3, e4] ∧ e1.key = .str k1 t1 ∧ e2.key = .str k2 t2 ∧ e3.key = .str k3 t3 ∧ e4.key = .str k4 t4
theorem idx4_of {K : Frag} {h : Heap} {d : Addr} {o : Obj} {es : Array DictEntry} {ep : Nat} {k1 k2 k3 k4 : Str} (X : K.In h) (e : K.lookup d = some o) (b : o.data = .dict es ep)
    (c : ∃ e1 e2 e3 e4 t1 t2 t3 t4, es.toList = [e1, e2, e3, e4] ∧ e1.key = .str k1 t1 ∧ e2.key = .str k2 t2 ∧ e3.key = .str k3 t3 ∧ e4.key = .str k4 t4) : Idx4 h d k1 k2 k3 k4 :=
  let ⟨e1, e2, e3, e4, t1, t2, t3, t4, r⟩ := c; ⟨o, es, ep, e1, e2, e3, e4, t1, t2, t3, t4, X _ _ e, b, r⟩
theorem Idx4.keep {h h' : Heap} {idx : Addr} {k1 k2 k3 k4 : Str} (x : Idx4 h idx k1 k2 k3 k4) (e : ∀ b o, h.get? b = some o → h'.get? b = some o) : Idx4 h' idx k1 k2 k3 k4 := by
  obtain ⟨o, es, ep, e1, e2, e3, e4, t1, t2, t3, t4, a, r⟩ := x
  exact ⟨o, es, ep, e1, e2, e3, e4, t1, t2, t3, t4, e _ _ a, r⟩
theorem idxA {w : World} {h : Heap} (X : (Mine.hd.heap_39 w.params).In h) : Idx4 h 33 (Str.ofString "min_col") (Str.ofString "min_row") (Str.ofString "max_col") (Str.ofString "max_row") := by
  refine' idx4_of X ?k ?b ?c
  case k => k_is
  case b => exact rfl
  case c => exact ⟨_, _, _, _, _, _, _, _, rfl, rfl, rfl, rfl, rfl⟩
theorem name_min_col {w : World} {h : Heap} (X : (Mine.hd.heap_39 w.params).In h) : Names w h 33 (Str.ofString "min_col") 1 := by
  refine' names_of (v := .int 1 422) X ?k ?a ?b ?c ?d ?e
  case k => k_is
  case a => exact ⟨rfl, rfl, rfl⟩
  case b => exact rfl
  case c => repeat (first | exact trivial | refine And.intro ⟨_, _, rfl, rfl⟩ ?_)
  case d => kernel_rfl
  case e => rfl
theorem name_min_row {w : World} {h : Heap} (X : (Mine.hd.heap_39 w.params).In h) : Names w h 33 (Str.ofString "min_row") 2 := by
  refine' names_of (v := .int 2 424) X ?k ?a ?b ?c ?d ?e
  case k => k_is
  case a => exact ⟨rfl, rfl, rfl⟩
  case b => exact rfl
  case c => repeat (first | exact trivial | refine And.intro ⟨_, _, rfl, rfl⟩ ?_)
  case d => kernel_rfl
  case e => rfl
theorem name_max_col {w : World} {h : Heap} (X : (Mine.hd.heap_39 w.params).In h) : Names w h 33 (Str.ofString "max_col") 4 := by
  refine' names_of (v := .int 4 426) X ?k ?a ?b ?c ?d ?e
  case k => k_is
  case a => exact ⟨rfl, rfl, rfl⟩
  case b => exact rfl
  case c => repeat (first | exact trivial | refine And.intro ⟨_, _, rfl, rfl⟩ ?_)
  case d => kernel_rfl
  case e => rfl
theorem name_max_row {w : World} {h : Heap} (X : (Mine.hd.heap_39 w.params).In h) : Names w h 33 (Str.ofString "max_row") 5 := by
  refine' names_of (v := .int 5 428) X ?k ?a ?b ?c ?d ?e
  case k => k_is
  case a => exact ⟨rfl, rfl, rfl⟩
  case b => exact rfl
  case c => repeat (first | exact trivial | refine And.intro ⟨_, _, rfl, rfl⟩ ?_)
  case d => kernel_rfl
  case e => rfl
section
variable {prog : Program} {w : World} {A : Around} {E : Value → Shared → Prop} {s : Shared} {h₀ : Heap} {L : Addr} {m : Str → Option Value} {news : List (Addr × Obj)}
theorem gd_step {D T p idx : Addr} {code : Array Nat} {gs : Nat} {x : Str} {t tk : Tok} {lim : Nat} {li : Int} {stop n g : Nat} {v : Nat → Option Nat} {k : Str} {d : Value} {o : Obj} {kvs : List (Str × Value)} {Q : Unit → Shared → Prop}
    (F : Fr h₀ L s.heap m) (N : News h₀ L s.heap ((D, o) :: news)) (off : ∀ q ∈ news, q.1 ≠ D) (hd : o.IsDictOf (PySem.strKind prog w) kvs) (hp : IsPat h₀ p code gs idx) (hN : Names w h₀ idx k (g + 1)) (hg : g < n) (hx : x.cps.size ≤ 1000) (hl : kvs.length ≤ 10)
    (h : ∀ t' o' h' k', o'.IsDictOf (PySem.strKind prog w) (stored kvs k (strOr d (grp v x g) t')) → Fr h₀ L h' m → News h₀ L h' ((D, o') :: news) → Q () { s with heap := h', toks := k' }) :
    wpAny (model prog w) A (do dictSet D (.str k tk) (← reGroupText (found x t p lim li T stop v n) (← reGroupNumber (found x t p lim li T stop v n) (.str k tk)) d)) Q E s := by
  refine wpAny_bind (wpAny_groupNumber (hp.keep F.keep) (hN.keep F.keep) hg fun k' => ?_)
  refine wpAny_bind (wpAny_group (s := { s with toks := k' }) hx hg fun k2 => ?_)
  have hm := N (D, o) (.head _)
  refine wpAny_dictSet_pairs (hsz := Nat.le_trans hl (by decide)) (strKind_is _ _ _ _) (Heap.dictOf_iff.mpr ⟨o, hm.1, hd⟩) fun h' hmm hs => ?_
  obtain ⟨o', ho', hd'⟩ := Heap.dictOf_iff.mp hmm
  exact h _ o' h' _ hd' (F.change hs hm.2.1 hm.2.2) (News.setIn (own := []) N (fun _ h => nomatch h) off hs ho')
theorem Heap.DictOf.newIs : ({ cls := .type "dict", data := .dict #[] } : Obj).IsDictOf (PySem.strKind prog w) [] := ⟨#[], 0, ⟨rfl, rfl, rfl⟩, rfl, fun _ he => by simp at he, Pairs.nil, List.nodup_nil⟩
theorem stored_len (kvs : List (Str × Value)) (k : Str) (v : Value) : (stored kvs k v).length ≤ kvs.length + 1 := by
  unfold stored
  split
  · rw [List.length_map]; exact Nat.le_succ _
  · simp
theorem stored4 {k1 k2 k3 k4 : Str} (hk : [k1, k2, k3, k4].Nodup) {v1 v2 v3 v4 : Value} : stored (stored (stored (stored [] k1 v1) k2 v2) k3 v3) k4 v4 = [(k1, v1), (k2, v2), (k3, v3), (k4, v4)] := by
  simp only [List.nodup_cons, List.mem_cons, List.not_mem_nil, or_false, not_or, not_false_eq_true, and_true] at hk
  obtain ⟨⟨a, b, c⟩, ⟨d, e⟩, f, _⟩ := hk
  simp [stored, a, b, c, d, e, f]
theorem gdict_F {M T p idx : Addr} {code : Array Nat} {gs : Nat} {x : Str} {t : Tok} {lim : Nat} {li : Int} {stop n : Nat} {v : Nat → Option Nat} {g1 g2 g3 g4 : Nat} {k1 k2 k3 k4 : Str} {q : Str} {tq : Tok} {o1 o2 o3 o4 : Option Str} {Q : Value → Shared → Prop} (hbig : h₀.NoLimit)
    (F : Fr h₀ L s.heap m) (N : News h₀ L s.heap news) (hM : (M, matchObj x t p lim li T) ∈ news) (hT : (T, tupObj (rawInt 0 :: rawInt stop :: spanVals v n)) ∈ news) (hp : IsPat h₀ p code gs idx) (hI : Idx4 h₀ idx k1 k2 k3 k4)
    (n1 : Names w h₀ idx k1 (g1 + 1)) (n2 : Names w h₀ idx k2 (g2 + 1)) (n3 : Names w h₀ idx k3 (g3 + 1)) (n4 : Names w h₀ idx k4 (g4 + 1)) (hg : g1 < n ∧ g2 < n ∧ g3 < n ∧ g4 < n) (hx : x.cps.size ≤ 1000)
    (e1 : grp v x g1 = o1) (e2 : grp v x g2 = o2) (e3 : grp v x g3 = o3) (e4 : grp v x g4 = o4) (hk : [k1, k2, k3, k4].Nodup)
    (h : ∀ D o h' k' t1 t2 t3 t4 ep, KdkAt (PySem.strKind prog w) o [(k1, strOr (.str q tq) o1 t1), (k2, strOr (.str q tq) o2 t2), (k3, strOr (.str q tq) o3 t3), (k4, strOr (.str q tq) o4 t4)] ep → Fr h₀ L h' m → News h₀ L h' ((D, o) :: news) → (∀ q ∈ news, q.1 < D) → (D == sysModules) = false → Q (.ref D) { s with heap := h', toks := k' }) :
    wpAny (model prog w) A (call (.builtin "re.Match.groupdict") [.ref M, .str q tq]) Q E s := by
  subst e1 e2 e3 e4
  have hty : s.TypeIs (.ref M) "re.Match" := ⟨_, (N _ hM).1, rfl⟩
  refine wpAny_call_entry slot_gdict (T := "re.Match") hty entry_gdict ?_ (args_gdict _ _)
  unfold Builtin.«re.Match.groupdict»
  refine wpAny_bind ?_
  unfold reWithDefault
  dsimp only
  refine wpAny_bind (wpAny_of_eq (a := [some (.str q tq)]) rfl ?_)
  dsimp only
  refine wpAny_bind (wpAny_reFound (N _ hM).1 (N _ hT).1 (wpAny_pure ?_))
  dsimp only [Option.getD_some]
  unfold newDict
  refine wpAny_bind (wpAny_newObj_type ?_)
  have F1 := F.push { cls := .type "dict", data := .dict #[] }
  have N1 := News.push F N { cls := .type "dict", data := .dict #[] }
  have lo : (s.heap.objs.size == sysModules) = false := F.notModules (modules_low hbig)
  have off : ∀ q ∈ news, q.1 ≠ s.heap.objs.size := fun q hq => Nat.ne_of_lt (Heap.lt_size (N q hq).1)
  obtain ⟨po, fs, hpo, hc, hdn, hfs, hgs, hi, _⟩ := (hp.keep F1.keep).obj
  obtain ⟨io, es, ep, a1, a2, a3, a4, t1, t2, t3, t4, hio, hid, hes, b1, b2, b3, b4⟩ := hI.keep F1.keep
  refine wpAny_bind ?_
  show wpAny _ _ (fieldsOf (.ref p)) _ _ _
  refine wpAny_fieldsOf hpo hfs ?_
  rw [hi]
  dsimp only
  refine wpAny_bind (wpAny_dictEntries hio hid ?_)
  rw [← Array.forIn_toList, hes]
  simp only [List.forIn_cons, List.forIn_nil, b1, b2, b3, b4]
  refine wpAny_bind ?_
  refine wpAny_bind (wpAny_bind (wpAny_holding (gd_step (s := { s with heap := _ }) F1 N1 off Heap.DictOf.newIs hp n1 hg.1 hx (by decide) fun u1 o1 h1 c1 d1 F2 N2 => wpAny_pure ?_)))
  (try dsimp only)
  refine wpAny_bind (wpAny_bind (wpAny_holding (gd_step (s := { s with heap := h1, toks := c1 }) F2 N2 off d1 hp n2 hg.2.1 hx (Nat.le_trans (stored_len _ _ _) (by decide)) fun u2 o2 h2 c2 d2 F3 N3 => wpAny_pure ?_)))
  (try dsimp only)
  refine wpAny_bind (wpAny_bind (wpAny_holding (gd_step (s := { s with heap := h2, toks := c2 }) F3 N3 off d2 hp n3 hg.2.2.1 hx (Nat.le_trans (stored_len _ _ _) (Nat.succ_le_succ (Nat.le_trans (stored_len _ _ _) (by decide)))) fun u3 o3 h3 c3 d3 F4 N4 => wpAny_pure ?_)))
  (try dsimp only)
  refine wpAny_bind (wpAny_bind (wpAny_holding (gd_step (s := { s with heap := h3, toks := c3 }) F4 N4 off d3 hp n4 hg.2.2.2 hx (Nat.le_trans (stored_len _ _ _) (Nat.succ_le_succ (Nat.le_trans (stored_len _ _ _) (Nat.succ_le_succ (Nat.le_trans (stored_len _ _ _) (by decide)))))) fun u4 o4 h4 c4 d4 F5 N5 => wpAny_pure (wpAny_pure ?_))))
  obtain ⟨ep', hat⟩ := KdkAt.of d4
  rw [stored4 hk] at hat
  refine wpAny_pure ⟨_, rfl, h s.heap.objs.size o4 h4 c4 _ _ _ _ ep' hat F5 N5 (fun q hq => Heap.lt_size (N q hq).1) lo⟩
end
end Mine
end
section
open PySem PySem.W PySem.Calls PySem.Spec PyProof.Rows PyProof.V
set_option Elab.async false
set_option maxRecDepth 100000
set_option maxHeartbeats 4000000
set_option linter.unusedVariables false
namespace Mine
section
variable {prog : Program} {w : World} {K : Type} [DecidableEq K] {knd : KeyKind prog w K} {A : Around} {E : Value → Shared → Prop} {s : Shared} {h₀ : Heap} {L : Addr} {m : Str → Option Value} {news : List (Addr × Obj)}
/-- a store under a key that is there keeps the dict's epoch -/
theorem dictSet_at {d : Addr} {kvs : List (K × Value)} {ep : Nat} {k : K} {key v : Value} {Q : Unit → Shared → Prop} (hkey : knd.is k key = true) (hm : s.heap.DictAt knd d kvs ep) (there : kvs.any (fun kv => decide (kv.1 = k)) = true)
    (hQ : ∀ h', h'.DictAt knd d (stored kvs k v) ep → Heap.SameBut d s.heap h' → Q () { s with heap := h', toks := s.toks + 1 }) : wpAny (model prog w) A (dictSet d key v) Q E s := by
  obtain ⟨o, es, ho, hx, hd, hk, hp, hn⟩ := hm
  have same : (es.findIdx? fun e => knd.is k e.key) = kvs.findIdx? fun kv => decide (kv.1 = k) := by
    rw [← hp.findIdx k]; obtain ⟨l⟩ := es; simp
  obtain ⟨i, hi⟩ : ∃ i, (es.findIdx? fun e => knd.is k e.key) = some i := by
    rw [same]
    cases e : kvs.findIdx? fun kv => decide (kv.1 = k) with
    | some i => exact ⟨i, rfl⟩
    | none =>
      rw [List.findIdx?_eq_none_iff] at e
      obtain ⟨x, hx1, hx2⟩ := List.any_eq_true.mp there
      exact absurd hx2 (by simpa using e x hx1)
  unfold dictSet
  (try with_reducible refine wpAny_holding ?_)
  refine wpAny_bind (knd.pyHash hkey ?_)
  unfold dictSetHashed
  (try with_reducible refine wpAny_holding ?_)
  refine wpAny_bind (wpAny_dictFind_of (s := { s with toks := s.toks + 1 }) hkey ho hd hk ?_)
  rw [hi]
  refine wpAny_bind (wpAny_rule (wpAny_bind (wpAny_updateDict (s := { s with toks := s.toks + 1 }) ho hd (wpAny_point ?_))))
  refine hQ _ ⟨_, _, Heap.get?_update_self _ ho (Obj.isFreed_of_dict (Obj.data_mapDict hd _)), hx.mapDict _, Obj.data_mapDict hd _, hk.modify _ _, ?_, ?_⟩ (Heap.SameBut.update ..)
  · have hl : (es.toList.findIdx? fun e => knd.is k e.key) = some i := by rw [← hi]; obtain ⟨l⟩ := es; simp
    have := hp.modify hn hl v
    rw [stored, if_pos there]
    obtain ⟨l⟩ := es
    simpa using this
  · rw [stored, if_pos there, keys_map_store]; exact hn
theorem setItem_at {d : Addr} {kvs : List (K × Value)} {ep : Nat} {k : K} {key v : Value} {Q : Unit → Shared → Prop} (hkey : knd.is k key = true) (hm : s.heap.DictAt knd d kvs ep) (there : kvs.any (fun kv => decide (kv.1 = k)) = true)
    (hQ : ∀ h', h'.DictAt knd d (stored kvs k v) ep → Heap.SameBut d s.heap h' → Q () { s with heap := h', toks := s.toks + 1 }) : wpAny (model prog w) A (setItem (.ref d) key v) Q E s := by
  have hT := hm.dictOf.typeIs
  unfold setItem
  (try with_reducible refine wpAny_holding ?_)
  refine wpAny_bind (wpAny_sequenceKey hT (by decide) ?_)
  refine wpAny_bind (wpAny_callSpecial?_slot (name := Str.ofString "__setitem__") hT slot_dict_setitem (wpAny_call_entry slot_dict_setitem hT entry_dict_setitem ?_ (args_dict_setitem _ _ _)))
  show wpAny _ _ (Builtin.Dict.notOrdered "__setitem__" ⟨[.ref d, key, v], []⟩ >>= _) _ _ s
  refine wpAny_bind (wpAny_notOrdered_dict hT ?_)
  show wpAny _ _ (dictSet d key v >>= _) _ _ s
  exact wpAny_bind (dictSet_at hkey hm there fun h' hm' hs' => wpAny_pure ⟨.none, rfl, wpAny_pure (hQ h' hm' hs')⟩)
theorem set_F {d : Addr} {o : Obj} {g : Obj → List (Addr × Obj)} {kvs kvs' : List (K × Value)} {ep : Nat} {k : K} {key v : Value} {Q : Unit → Shared → Prop} (F : Fr h₀ L s.heap m) (N : News h₀ L s.heap news) (U : UpdF d o news g) (hd : KdkAt knd o kvs ep) (hkey : knd.is k key = true)
    (there : kvs.any (fun kv => decide (kv.1 = k)) = true) (he : stored kvs k v = kvs')
    (h : ∀ h' o', Fr h₀ L h' m → News h₀ L h' (g o') → KdkAt knd o' kvs' ep → Q () { s with heap := h', toks := s.toks + 1 }) : wpAny (model prog w) A (setItem (.ref d) key v) Q E s := by
  subst he
  obtain ⟨pre, post, rfl, hg, a, b⟩ := U.split
  have hm := N (d, o) (List.mem_append_right _ (.head _))
  refine setItem_at hkey (hd.dictAt hm.1) there fun h' hmm hs => ?_
  obtain ⟨o', es, ho', r⟩ := hmm
  exact h h' o' (F.change hs hm.2.1 hm.2.2) (hg o' ▸ N.setIn a b hs ho') ⟨es, r⟩
theorem KdkAt.is {o : Obj} {kvs : List (K × Value)} {ep : Nat} (a : KdkAt knd o kvs ep) : o.IsDictOf knd kvs := let ⟨es, r⟩ := a; ⟨es, ep, r⟩
end
/-- the turns of a loop over a dict's items in which the loop's body stores under the dict's keys -/
noncomputable def DRest (prog : Program) (w : World) (A : Around) (E : Value → Shared → Prop) (h₀ : Heap) (env : Env) (target : Expr) (body : List Stmt) (Q : Flow → Shared → Prop) (s : Shared) (I d : Addr) (ep n : Nat) : Nat → Nat → (Str → Option Value) → List (Addr × Obj) → Prop
  | 0, _, m, news => ∀ h tk, Fr h₀ env.locals h m → News h₀ env.locals h news → Q .next { s with heap := h, toks := tk }
  | r + 1, i, m, news => ∃ (o : Obj) (kvs : List (Str × Value)) (k : Str) (x : Value), (d, o) ∈ news ∧ KdkAt (PySem.strKind prog w) o kvs ep ∧ kvs.length = n ∧ kvs[i]? = some (k, x) ∧
      ∀ (T : Addr) (t : Tok) h tk (io : Obj), io.cls = .type "dict_itemiterator" → IsTup h T #[.str k t, x] → Fr h₀ env.locals h m → News h₀ env.locals h ((I, io) :: news) →
        wpAny (model prog w) A (assign target env (.ref T)) (fun _ s₂ => wpAny (model prog w) A (execs body env) (UnrPostW h₀ env.locals { s with heap := h, toks := tk } [(I, io)] (fun m' n' => SubL [] n' ∧ (∃ (o' : Obj) (kvs' : List (Str × Value)), (d, o') ∈ n' ∧ KdkAt (PySem.strKind prog w) o' kvs' ep ∧ kvs'.length = n) ∧ DRest prog w A E h₀ env target body Q s I d ep n r (i + 1) m' n') Q) E s₂) E { s with heap := h, toks := tk }
def DLoop (prog : Program) (w : World) (A : Around) (env : Env) (target : Expr) (body : List Stmt) (Q : Flow → Shared → Prop) (E : Value → Shared → Prop) (it : Value) (s₂ : Shared) : Prop :=
  codeAny (model prog w) A (.forLoop target it body [] env) (fun r s' => match r with | .ok f => Q f s' | .error e => cameBackBy (model prog w) A env E e s') s₂
section
variable {prog : Program} {w : World} {A : Around} {E : Value → Shared → Prop} {s : Shared} {env : Env} {h₀ : Heap} {target : Expr} {body : List Stmt} {Q : Flow → Shared → Prop}
theorem For_d {iter : Expr} {pos : Pos} (h : wpAny (model prog w) A (eval iter env) (fun xv s₁ => wpAny (model prog w) A (pyIter xv) (fun it s₂ => DLoop prog w A env target body Q E it s₂) E s₁) E s)
    (hs : ∀ x, foldedSetIterable iter env x = pure x := by intro _; rfl) : wpAny (model prog w) A (exec (.For target iter body [] pos) env) Q E s :=
  wpAny_For h hs
theorem d_loop {hp : Heap} {tk0 : Nat} {I d : Addr} {ep n : Nat} {o : Obj} {kvs : List (Str × Value)} {ok ov : Value} {m : Str → Option Value} {news : List (Addr × Obj)} {elts : List Expr} {kk : Nat} {pos : Pos} (hh : A.handled = none) (hE : PassesOwn (model prog w) A env E)
    (hit : IsItemIter hp I d 0 n ep ok ov) (F : Fr h₀ env.locals hp m) (N : News h₀ env.locals hp news) (off : ∀ p ∈ news, p.1 ≠ I) (hL : I ≠ env.locals) (h0 : h₀.get? I = none) (hd : (d, o) ∈ news) (ha : KdkAt (PySem.strKind prog w) o kvs ep) (hl : kvs.length = n)
    (rest : DRest prog w A E h₀ env (.Tuple elts kk pos) body Q s I d ep n n 0 m news) : DLoop prog w A env (.Tuple elts kk pos) body Q E (.ref I) { s with heap := hp, toks := tk0 } := by
  unfold DLoop
  refine codeAny_forLoop_any
    (fun k s' => ∃ h' tk m' news' i ok ov o kvs, s' = { s with heap := h', toks := tk } ∧ IsItemIter h' I d i n ep ok ov ∧ Fr h₀ env.locals h' m' ∧ News h₀ env.locals h' news' ∧ (∀ p ∈ news', p.1 ≠ I) ∧ (d, o) ∈ news' ∧ KdkAt (PySem.strKind prog w) o kvs ep ∧ kvs.length = n ∧
      DRest prog w A E h₀ env (.Tuple elts kk pos) body Q s I d ep n (n - i) i m' news' ∧ i ≤ n ∧ k = n + 1 - i) ?_ (n + 1)
    ⟨hp, tk0, m, news, 0, ok, ov, o, kvs, rfl, hit, F, N, off, hd, ha, hl, rest, Nat.zero_le _, rfl⟩
  rintro k s' ⟨h', tk, m', news', i, ok', ov', o', kvs', rfl, hit', F', N', off', hd', ha', hl', hr, hi, rfl⟩
  have next : ∀ h₁ : Heap, (∀ b x, b ≠ I → h'.get? b = some x → h₁.get? b = some x) → Fr h₀ env.locals h₁ m' ∧ News h₀ env.locals h₁ news' := fun h₁ hk =>
    ⟨⟨F'.ns.at' fun x e => hk _ x hL.symm e, fun b x e => hk b x (fun h => by rw [h, h0] at e; cases e) (F'.keep b x e), F'.above⟩, fun p hp => ⟨hk _ _ (off' p hp) (N' p hp).1, (N' p hp).2⟩⟩
  by_cases hlt : i < n
  · obtain ⟨r, hr1⟩ : ∃ r, n - i = r + 1 := ⟨n - i - 1, by omega⟩
    rw [hr1] at hr
    obtain ⟨o1, kvs1, key, x, hm1, ha1, hl1, hx1, turn⟩ := hr
    have hdI : d ≠ I := off' _ hm1
    subst hl1
    refine wpAny_pyNext_items_item hit' (ha1.dictAt (N' _ hm1).1) hx1 fun kv h₁ hkey hout htup hsz hkeep => ?_
    refine wpAny_letOwnedTupleGo_items hout fun h₂ hit₂ hs₂ => ?_
    obtain ⟨t, rfl⟩ := Value.isStrOf_shape hkey
    have hTI : h'.objs.size ≠ I := Nat.ne_of_gt (Heap.lt_size hit')
    have keep₂ : ∀ b y, b ≠ I → h'.get? b = some y → h₂.get? b = some y := fun b y hb e => (hs₂.2 b hb).trans (hkeep b y hb e)
    obtain ⟨F₂, N₂⟩ := next h₂ keep₂
    have hIT : IsTup h₂ h'.objs.size #[.str key t, x] := ⟨_, (hs₂.2 _ hTI).trans htup, rfl, _, rfl⟩
    have N₃ : News h₀ env.locals h₂ ((I, _) :: news') := fun p hp => by
      rcases List.mem_cons.mp hp with rfl | hp
      · exact ⟨hit₂, hL, h0⟩
      · exact N₂ p hp
    refine wpAny_mono (turn _ _ _ _ _ rfl hIT F₂ N₃) (fun _ s₂ h2 => wpAny_mono h2 (fun f s₃ p => ?_) fun _ _ e => ?_) fun _ _ e => ?_
    · cases f with
      | ret v => exact p
      | brk => exact p
      | next =>
        obtain ⟨h3, tk3, m3, n3, rfl, F3, N3, ho3, _, ⟨o3, kvs3, hm3, ha3, hl3⟩, r3⟩ := p
        exact ⟨_, by omega, h3, tk3, m3, n3, i + 1, _, _, o3, kvs3, rfl, (N3 _ (.head _)).1, F3, fun p hp => N3 p (.tail _ hp), fun p hp => ho3 p hp _ (.head _), hm3, ha3, hl3, by rw [show kvs1.length - (i + 1) = r by omega]; exact r3, hlt, rfl⟩
      | cont =>
        obtain ⟨h3, tk3, m3, n3, rfl, F3, N3, ho3, _, ⟨o3, kvs3, hm3, ha3, hl3⟩, r3⟩ := p
        exact ⟨_, by omega, h3, tk3, m3, n3, i + 1, _, _, o3, kvs3, rfl, (N3 _ (.head _)).1, F3, fun p hp => N3 p (.tail _ hp), fun p hp => ho3 p hp _ (.head _), hm3, ha3, hl3, by rw [show kvs1.length - (i + 1) = r by omega]; exact r3, hlt, rfl⟩
    · exact hE _ _ e
    · exact hE _ _ e
  · have hin : i = n := by omega
    subst hin
    subst hl'
    rw [Nat.sub_self] at hr
    refine wpAny_pyNext_items_end hh hit' (ha'.dictAt (N' _ hd').1) (by simp) fun h₁ hs => wpAny_execs_nil ?_
    obtain ⟨F₁, N₁⟩ := next h₁ fun b y hb e => hs b y hb e
    exact hr _ _ F₁ N₁
theorem d_iter {vw d : Addr} {ep : Nat} {o : Obj} {kvs : List (Str × Value)} {m : Str → Option Value} {news : List (Addr × Obj)} {elts : List Expr} {kk : Nat} {pos : Pos} (hh : A.handled = none) (F : Fr h₀ env.locals s.heap m) (N : News h₀ env.locals s.heap news)
    (hv : (vw, ({ cls := .type "dict_items", data := .fields #[.ref d] } : Obj)) ∈ news) (hd : (d, o) ∈ news) (ha : KdkAt (PySem.strKind prog w) o kvs ep)
    (rest : ∀ I : Addr, (∀ p ∈ news, p.1 < I) → DRest prog w A E h₀ env (.Tuple elts kk pos) body Q s I d ep kvs.length kvs.length 0 m news)
    (hE : PassesOwn (model prog w) A env E := by passes_own) :
    wpAny (model prog w) A (pyIter (.ref vw)) (fun it s₂ => DLoop prog w A env (.Tuple elts kk pos) body Q E it s₂) E s := by
  refine wpAny_pyIter_items ⟨_, (N _ hv).1, rfl, rfl⟩ (ha.dictAt (N _ hd).1) ?_
  have lt : ∀ p ∈ news, p.1 < s.heap.objs.size := fun p hp => Heap.lt_size (N p hp).1
  exact d_loop (tk0 := s.toks) hh hE (Heap.get?_push_size _ rfl) (F.push _) (fun p hp => ⟨Heap.get?_push_of_some _ (N p hp).1, (N p hp).2⟩) (fun p hp => Nat.ne_of_lt (lt p hp)) (Nat.ne_of_gt F.ns.lt) (next_is_new F) hd ha rfl (rest _ lt)
end
end Mine
end
section
local macro_rules | `(tactic| walk_at "mine pad 0") => `(tactic| skip)
local macro_rules | `(tactic| walk_at "mine pad 1") => `(tactic| skip)
local macro_rules | `(tactic| walk_at "mine pad 2") => `(tactic| skip)
local macro_rules | `(tactic| walk_at "mine pad 3") => `(tactic| skip)
local macro_rules | `(tactic| walk_at "mine pad 4") => `(tactic| skip)
local macro_rules | `(tactic| walk_at "mine pad 5") => `(tactic| skip)
local macro_rules | `(tactic| walk_at "mine pad 6") => `(tactic| skip)
local macro_rules | `(tactic| walk_at "mine pad 7") => `(tactic| skip)
local macro_rules | `(tactic| walk_at "mine pad 8") => `(tactic| skip)
local macro_rules | `(tactic| walk_at "mine pad 9") => `(tactic| skip)
local macro_rules | `(tactic| walk_at "mine pad 10") => `(tactic| skip)
local macro_rules | `(tactic| walk_at "mine pad 11") => `(tactic| skip)
local macro_rules | `(tactic| walk_at "mine pad 12") => `(tactic| skip)
local macro_rules | `(tactic| walk_at "mine pad 13") => `(tactic| skip)
open PySem PySem.W PySem.Calls PySem.Spec PyProof.Rows
set_option Elab.async false
set_option maxRecDepth 100000
set_option maxHeartbeats 4000000
set_option linter.unusedVariables false
set_option linter.unusedSimpArgs false
namespace Mine
/-- a part with its dollar -/
def dlo : Option Str → Str
  | none => Str.ofString ""
  | some a => Str.ofString "$" ++ a
def acOut : List (Option Str) → Str
  | [a, b, none, none] => dlo a ++ dlo b
  | [a, b, c, e] => dlo a ++ dlo b ++ Str.ofString ":" ++ dlo c ++ dlo e
  | _ => Str.ofString ""
theorem emp (x : Str) : Str.empty ++ x = x := by
  show (⟨#[] ++ x.cps⟩ : Str) = x
  rw [Array.empty_append]
theorem grp5 {v : Nat → Option Nat} {x : Str} {a b c d e : Option Str} (ho : (List.range 5).map (grp v x) = [a, b, c, d, e]) : grp v x 0 = a ∧ grp v x 1 = b ∧ grp v x 2 = c ∧ grp v x 3 = d ∧ grp v x 4 = e := by
  have h : [grp v x 0, grp v x 1, grp v x 2, grp v x 3, grp v x 4] = [a, b, c, d, e] := ho
  simpa using h
abbrev kv4 (v1 v2 v3 v4 : Value) : List (Str × Value) := [(Str.ofString "min_col", v1), (Str.ofString "min_row", v2), (Str.ofString "max_col", v3), (Str.ofString "max_row", v4)]
theorem kn4 : [Str.ofString "min_col", Str.ofString "min_row", Str.ofString "max_col", Str.ofString "max_row"].Nodup := by decide +kernel
theorem st1 {v v1 v2 v3 v4 : Value} : stored (kv4 v1 v2 v3 v4) (Str.ofString "min_col") v = kv4 v v2 v3 v4 := by
  have := kn4
  simp only [List.nodup_cons, List.mem_cons, List.not_mem_nil, or_false, not_or, not_false_eq_true, and_true] at this
  obtain ⟨⟨a, b, c⟩, ⟨d, e⟩, f, _⟩ := this
  simp [stored, kv4, a, b, c, d, e, f, Ne.symm a, Ne.symm b, Ne.symm c, Ne.symm d, Ne.symm e, Ne.symm f]
theorem st2 {v v1 v2 v3 v4 : Value} : stored (kv4 v1 v2 v3 v4) (Str.ofString "min_row") v = kv4 v1 v v3 v4 := by
  have := kn4
  simp only [List.nodup_cons, List.mem_cons, List.not_mem_nil, or_false, not_or, not_false_eq_true, and_true] at this
  obtain ⟨⟨a, b, c⟩, ⟨d, e⟩, f, _⟩ := this
  simp [stored, kv4, a, b, c, d, e, f, Ne.symm a, Ne.symm b, Ne.symm c, Ne.symm d, Ne.symm e, Ne.symm f]
theorem st3 {v v1 v2 v3 v4 : Value} : stored (kv4 v1 v2 v3 v4) (Str.ofString "max_col") v = kv4 v1 v2 v v4 := by
  have := kn4
  simp only [List.nodup_cons, List.mem_cons, List.not_mem_nil, or_false, not_or, not_false_eq_true, and_true] at this
  obtain ⟨⟨a, b, c⟩, ⟨d, e⟩, f, _⟩ := this
  simp [stored, kv4, a, b, c, d, e, f, Ne.symm a, Ne.symm b, Ne.symm c, Ne.symm d, Ne.symm e, Ne.symm f]
theorem st4 {v v1 v2 v3 v4 : Value} : stored (kv4 v1 v2 v3 v4) (Str.ofString "max_row") v = kv4 v1 v2 v3 v := by
  have := kn4
  simp only [List.nodup_cons, List.mem_cons, List.not_mem_nil, or_false, not_or, not_false_eq_true, and_true] at this
  obtain ⟨⟨a, b, c⟩, ⟨d, e⟩, f, _⟩ := this
  simp [stored, kv4, a, b, c, d, e, f, Ne.symm a, Ne.symm b, Ne.symm c, Ne.symm d, Ne.symm e, Ne.symm f]
section
variable {prog : Program} {w : World} {A : Around} {E : Value → Shared → Prop} {s : Shared} {h₀ : Heap} {L : Addr} {m : Str → Option Value} {news : List (Addr × Obj)}
theorem cls_F {o : Obj} {ep : Nat} {kvs : List (Str × Value)} (hd : KdkAt (PySem.strKind prog w) o kvs ep) : o.cls = .type "dict" := let ⟨_, hx, _⟩ := hd; hx.1
theorem DRest.step {env : Env} {target : Expr} {body : List Stmt} {Q : Flow → Shared → Prop} {I d : Addr} {ep n r i : Nat} {o : Obj} {kvs : List (Str × Value)} {k : Str} {x : Value} (hd : (d, o) ∈ news) (ha : KdkAt (PySem.strKind prog w) o kvs ep) (hl : kvs.length = n) (hx : kvs[i]? = some (k, x))
    (h : ∀ (T : Addr) (t : Tok) h tk (io : Obj), io.cls = .type "dict_itemiterator" → IsTup h T #[.str k t, x] → Fr h₀ env.locals h m → News h₀ env.locals h ((I, io) :: news) →
        wpAny (model prog w) A (assign target env (.ref T)) (fun _ s₂ => wpAny (model prog w) A (execs body env) (UnrPostW h₀ env.locals { s with heap := h, toks := tk } [(I, io)] (fun m' n' => SubL [] n' ∧ (∃ (o' : Obj) (kvs' : List (Str × Value)), (d, o') ∈ n' ∧ KdkAt (PySem.strKind prog w) o' kvs' ep ∧ kvs'.length = n) ∧ DRest prog w A E h₀ env target body Q s I d ep n r (i + 1) m' n') Q) E s₂) E { s with heap := h, toks := tk }) :
    DRest prog w A E h₀ env target body Q s I d ep n (r + 1) i m news := ⟨o, kvs, k, x, hd, ha, hl, hx, h⟩
theorem DRest.done {env : Env} {target : Expr} {body : List Stmt} {Q : Flow → Shared → Prop} {I d : Addr} {ep n i : Nat} (h : ∀ h tk, Fr h₀ env.locals h m → News h₀ env.locals h news → Q .next { s with heap := h, toks := tk }) :
    DRest prog w A E h₀ env target body Q s I d ep n 0 i m news := h
theorem d_iter4 {vw d : Addr} {ep : Nat} {o : Obj} {v1 v2 v3 v4 : Value} {elts : List Expr} {kk : Nat} {pos : Pos} {env : Env} {body : List Stmt} {Q : Flow → Shared → Prop} (hh : A.handled = none) (F : Fr h₀ env.locals s.heap m) (N : News h₀ env.locals s.heap news)
    (hv : (vw, ({ cls := .type "dict_items", data := .fields #[.ref d] } : Obj)) ∈ news) (hd : (d, o) ∈ news) (ha : KdkAt (PySem.strKind prog w) o (kv4 v1 v2 v3 v4) ep)
    (rest : ∀ I : Addr, (∀ p ∈ news, p.1 < I) → DRest prog w A E h₀ env (.Tuple elts kk pos) body Q s I d ep 4 4 0 m news)
    (hE : PassesOwn (model prog w) A env E := by passes_own) :
    wpAny (model prog w) A (pyIter (.ref vw)) (fun it s₂ => DLoop prog w A env (.Tuple elts kk pos) body Q E it s₂) E s := d_iter hh F N hv hd ha rest hE
end
theorem fillK5 : PySem.Challenge.rw_ez0208_01 = PySem.Challenge.rw_ez0208_01 → (∀ P, Mine.hd.heap_39 P = Mine.hd.heap_39 P) := by k_fill; intros; rfl
local macro_rules | `(tactic| walk_at "getMethod ref") => `(tactic| ((with_reducible show wpAny _ _ (getMethod (Value.ref _) (Str.ofString "match") _) _ _ _); refine pat_method ((patA (by assumption)).keep (Fr.keep (by assumption))) ?_))
local macro_rules | `(tactic| walk_at "getMethod ref") => `(tactic| ((with_reducible show wpAny _ _ (getMethod (Value.ref _) (Str.ofString "groupdict") _) _ _ _); k_dflt (refine mat_method (by k_asm) (by k_mem) slot_gdict type_gdict ?_)))
local macro_rules | `(tactic| walk_at "call builtin:re.Pattern.match") => `(tactic| ((with_reducible show wpAny _ _ (call (Value.builtin "re.Pattern.match") [Value.ref _, Value.str _ _]) _ _ _); refine match_F (by k_asm) (by k_asm) ((patA (by assumption)).keep (Fr.keep (by assumption))) (by assumption) (by decide) ?_; intro T' M' li' h' F' N' l1 l2 l3; (try k_lt l1)))
local macro_rules | `(tactic| walk_at "call builtin:re.Match.groupdict") => `(tactic| (k_dflt (refine gdict_F (g1 := 0) (g2 := 1) (g3 := 3) (g4 := 4) (TopRead.nolimit (by assumption)) (by k_asm) (by k_asm) (by k_mem) (by k_mem) (patA (by assumption)) (idxA (by assumption)) (name_min_col (by assumption)) (name_min_row (by assumption)) (name_max_col (by assumption)) (name_max_row (by assumption)) (by decide) (by assumption) (by assumption) (by assumption) (by assumption) (by assumption) kn4 ?_); intro D' o' h' k' t1' t2' t3' t4' ep' hd' F' N' l1 lo'; (try dsimp only [strOr] at hd'); (have hi' := KdkAt.is hd'); (have hc' := cls_F hd'); (try k_lt l1)))
local macro_rules | `(tactic| walk_at "exec For Tuple Call cons nil") => `(tactic| ((with_unfolding_all refine' For_d ?_; k_whole)))
local macro_rules | `(tactic| walk_at "pyIter ref") => `(tactic| ((with_reducible show wpAny _ _ (pyIter (Value.ref _)) (fun it s₂ => DLoop _ _ _ _ _ _ _ _ it s₂) _ _); k_dflt (refine d_iter4 (by rfl) (by k_asm) (by k_asm) (by k_mem) (by k_mem) (by assumption) ?_); intro I' l1; (try k_lt l1)))
local macro_rules | `(tactic| walk_at "DRest") => `(tactic| (first
  | (k_dflt (refine DRest.step (by k_mem) (by assumption) rfl rfl ?_); intro T' t' h' tk' io' hc' hT' F' N')
  | (k_dflt (refine DRest.done ?_); intro h' tk' F' N')))
theorem dgo {env : Env} {prog : Program} {w : World} {A : Around} {E : Value → Shared → Prop} {s : Shared} {h₀ : Heap} {m : Str → Option Value} {news : List (Addr × Obj)} {target : Expr} {body : List Stmt} {Q : Flow → Shared → Prop} {I d : Addr} {ep n r i : Nat} {o : Obj} {kvs : List (Str × Value)} (hd : (d, o) ∈ news) (ha : KdkAt (PySem.strKind prog w) o kvs ep) (hl : kvs.length = n) (h : DRest prog w A E h₀ env target body Q s I d ep n r i m news) :
    (∃ (o' : Obj) (kvs' : List (Str × Value)), (d, o') ∈ news ∧ KdkAt (PySem.strKind prog w) o' kvs' ep ∧ kvs'.length = n) ∧ DRest prog w A E h₀ env target body Q s I d ep n r i m news := ⟨⟨o, kvs, hd, ha, hl⟩, h⟩
local macro_rules | `(tactic| walk_at "And") => `(tactic| (goal_lacks PySem.joinParts; k_dflt (refine dgo (by k_mem) (by assumption) rfl ?_)))
local macro_rules | `(tactic| walk_at "setItem ref str") => `(tactic| (k_dflt (first
  | ((with_reducible show wpAny _ _ (setItem _ (Value.str (Str.ofString "min_col") _) _) _ _ _); refine set_F (by k_asm) (by k_asm) (by k_updF) (by assumption) (strKind_is _ _ _ _) (by kernel_rfl) st1 ?_)
  | ((with_reducible show wpAny _ _ (setItem _ (Value.str (Str.ofString "min_row") _) _) _ _ _); refine set_F (by k_asm) (by k_asm) (by k_updF) (by assumption) (strKind_is _ _ _ _) (by kernel_rfl) st2 ?_)
  | ((with_reducible show wpAny _ _ (setItem _ (Value.str (Str.ofString "max_col") _) _) _ _ _); refine set_F (by k_asm) (by k_asm) (by k_updF) (by assumption) (strKind_is _ _ _ _) (by kernel_rfl) st3 ?_)
  | ((with_reducible show wpAny _ _ (setItem _ (Value.str (Str.ofString "max_row") _) _) _ _ _); refine set_F (by k_asm) (by k_asm) (by k_updF) (by assumption) (strKind_is _ _ _ _) (by kernel_rfl) st4 ?_)); intro h' o' F' N' hd'; (have hi' := KdkAt.is hd'); (have hc' := cls_F hd'); (try dsimp only at N')))
local macro_rules | `(tactic| walk_at "truthy str") => `(tactic| (k_dflt (refine truthy_s (by assumption) (by omega) ?_); intro k'))
local macro_rules | `(tactic| walk_at "execs nil") => `(tactic| (k_here; (refine gen_pos (by omega) ?_); intro tk' tp'; (with_reducible refine wpAny_execs_nil ?_); try dsimp only))
local macro_rules | `(tactic| walk_at "execs cons") => `(tactic| (k_here; (refine gen_pos (by omega) ?_); intro tk' tp'; (with_reducible refine wpAny_execs_cons ?_); try dsimp only))
local macro_rules | `(tactic| walk_at "truthy ref") => `(tactic| (refine mat_truthy (by k_asm) (by k_mem) ?_))
theorem ac_one : ∀ {w : World} {mg mb : Str → Option Value} {mean : ExcName → Option Value} {d u : Nat} {fr : Option (List Env)} {gd : Option (List Code)} {s : Shared} {Q E : Value → Shared → Prop} {x a b : Str} {v : Nat → Option Nat} {t : Tok}
    (X : (Mine.hd.heap_39 w.params).In s.heap) (T : TopRead Mine.hd.view_39 LO mg mb s.heap)
    (hd : d + 16 < recursionLimit) (hu : u + 200 < cLine) (hx : x.length ≤ 1000) (hx2 : x.cps.size ≤ 1000)
    (f : Fit Rx.codeA 5 200 x v x.cps.size) (ho : (List.range 5).map (grp v x) = [some a, some b, none, none, none]) (ha0 : a.cps.size ≠ 0) (ha1 : a.cps.size ≤ 1000) (ha2 : a.length ≤ 600) (hb0 : b.cps.size ≠ 0) (hb1 : b.cps.size ≤ 1000) (hb2 : b.length ≤ 600)
    (ret : ∀ y h' tk' t', 0 < tk' → Ext s.heap h' → y = acOut [some a, some b, none, none] → Q (.str y t') { s with heap := h', toks := tk' }),
    wpAny (model PySem.Challenge.rw_ez0208_01.row.prog w) ⟨none, d, fr, gd, u⟩ (call (.ref 48) [.str x t] []) Q E s := by
  k_fill
  intro w mg mb mean d u fr gd s Q E x a b v t X T hd hu hx hx2 f ho ha0 ha1 ha2 hb0 hb1 hb2 ret
  obtain ⟨g0, g1, g2, g3, g4⟩ := grp5 ho
  k_dflt (refine' enterK (args := ⟨[.str x t], []⟩) X T ?k1 ?k2 ?k3 ?k4 ?k5 ?_ ?c1 ?c2 ?c3 ?c4; (case k1 => k_is); (case k2 => k_is); (case k3 => (dsimp only; omega)); (case k4 => exact BindsTo.of_eq rfl); (case k5 => exact locs rfl); (case c1 => rfl); (case c2 => rfl); (case c3 => rfl); (case c4 => decide); k_whole)
  intro L' h' F' N'
  (try dsimp only)
  (try k_fold)
  k_steps
  all_goals (
    (with_reducible rename Fr _ _ _ _ => F9)
    (try dsimp only [qk])
    (try dsimp only)
    refine ret _ _ _ _ ?_ (fun b o e => F9.keep b o e) ?_)
  all_goals first | omega | (simp only [emp]; rfl)
theorem ac_two : ∀ {w : World} {mg mb : Str → Option Value} {mean : ExcName → Option Value} {d u : Nat} {fr : Option (List Env)} {gd : Option (List Code)} {s : Shared} {Q E : Value → Shared → Prop} {x a b z c e : Str} {v : Nat → Option Nat} {t : Tok}
    (X : (Mine.hd.heap_39 w.params).In s.heap) (T : TopRead Mine.hd.view_39 LO mg mb s.heap)
    (hd : d + 16 < recursionLimit) (hu : u + 200 < cLine) (hx : x.length ≤ 1000) (hx2 : x.cps.size ≤ 1000)
    (f : Fit Rx.codeA 5 200 x v x.cps.size) (ho : (List.range 5).map (grp v x) = [some a, some b, some z, some c, some e]) (ha0 : a.cps.size ≠ 0) (ha1 : a.cps.size ≤ 1000) (ha2 : a.length ≤ 600) (hb0 : b.cps.size ≠ 0) (hb1 : b.cps.size ≤ 1000) (hb2 : b.length ≤ 600) (hc0 : c.cps.size ≠ 0) (hc1 : c.cps.size ≤ 1000) (hc2 : c.length ≤ 600) (he0 : e.cps.size ≠ 0) (he1 : e.cps.size ≤ 1000) (he2 : e.length ≤ 600)
    (ret : ∀ y h' tk' t', 0 < tk' → Ext s.heap h' → y = acOut [some a, some b, some c, some e] → Q (.str y t') { s with heap := h', toks := tk' }),
    wpAny (model PySem.Challenge.rw_ez0208_01.row.prog w) ⟨none, d, fr, gd, u⟩ (call (.ref 48) [.str x t] []) Q E s := by
  k_fill
  intro w mg mb mean d u fr gd s Q E x a b z c e v t X T hd hu hx hx2 f ho ha0 ha1 ha2 hb0 hb1 hb2 hc0 hc1 hc2 he0 he1 he2 ret
  obtain ⟨g0, g1, g2, g3, g4⟩ := grp5 ho
  k_dflt (refine' enterK (args := ⟨[.str x t], []⟩) X T ?k1 ?k2 ?k3 ?k4 ?k5 ?_ ?c1 ?c2 ?c3 ?c4; (case k1 => k_is); (case k2 => k_is); (case k3 => (dsimp only; omega)); (case k4 => exact BindsTo.of_eq rfl); (case k5 => exact locs rfl); (case c1 => rfl); (case c2 => rfl); (case c3 => rfl); (case c4 => decide); k_whole)
  intro L' h' F' N'
  (try dsimp only)
  (try k_fold)
  k_steps
  all_goals (
    (with_reducible rename Fr _ _ _ _ => F9)
    (try dsimp only [qk])
    (try dsimp only)
    refine ret _ _ _ _ ?_ (fun b o e => F9.keep b o e) ?_)
  all_goals first | omega | (simp only [emp]; rfl)
theorem ac_cols : ∀ {w : World} {mg mb : Str → Option Value} {mean : ExcName → Option Value} {d u : Nat} {fr : Option (List Env)} {gd : Option (List Code)} {s : Shared} {Q E : Value → Shared → Prop} {x a z c : Str} {v : Nat → Option Nat} {t : Tok}
    (X : (Mine.hd.heap_39 w.params).In s.heap) (T : TopRead Mine.hd.view_39 LO mg mb s.heap)
    (hd : d + 16 < recursionLimit) (hu : u + 200 < cLine) (hx : x.length ≤ 1000) (hx2 : x.cps.size ≤ 1000)
    (f : Fit Rx.codeA 5 200 x v x.cps.size) (ho : (List.range 5).map (grp v x) = [some a, none, some z, some c, none]) (ha0 : a.cps.size ≠ 0) (ha1 : a.cps.size ≤ 1000) (ha2 : a.length ≤ 600) (hc0 : c.cps.size ≠ 0) (hc1 : c.cps.size ≤ 1000) (hc2 : c.length ≤ 600)
    (ret : ∀ y h' tk' t', 0 < tk' → Ext s.heap h' → y = acOut [some a, none, some c, none] → Q (.str y t') { s with heap := h', toks := tk' }),
    wpAny (model PySem.Challenge.rw_ez0208_01.row.prog w) ⟨none, d, fr, gd, u⟩ (call (.ref 48) [.str x t] []) Q E s := by
  k_fill
  intro w mg mb mean d u fr gd s Q E x a z c v t X T hd hu hx hx2 f ho ha0 ha1 ha2 hc0 hc1 hc2 ret
  obtain ⟨g0, g1, g2, g3, g4⟩ := grp5 ho
  k_dflt (refine' enterK (args := ⟨[.str x t], []⟩) X T ?k1 ?k2 ?k3 ?k4 ?k5 ?_ ?c1 ?c2 ?c3 ?c4; (case k1 => k_is); (case k2 => k_is); (case k3 => (dsimp only; omega)); (case k4 => exact BindsTo.of_eq rfl); (case k5 => exact locs rfl); (case c1 => rfl); (case c2 => rfl); (case c3 => rfl); (case c4 => decide); k_whole)
  intro L' h' F' N'
  (try dsimp only)
  (try k_fold)
  k_steps
  all_goals (
    (with_reducible rename Fr _ _ _ _ => F9)
    (try dsimp only [qk])
    (try dsimp only)
    refine ret _ _ _ _ ?_ (fun b o e => F9.keep b o e) ?_)
  all_goals first | omega | (simp only [emp]; rfl)
theorem ac_rows : ∀ {w : World} {mg mb : Str → Option Value} {mean : ExcName → Option Value} {d u : Nat} {fr : Option (List Env)} {gd : Option (List Code)} {s : Shared} {Q E : Value → Shared → Prop} {x b z e : Str} {v : Nat → Option Nat} {t : Tok}
    (X : (Mine.hd.heap_39 w.params).In s.heap) (T : TopRead Mine.hd.view_39 LO mg mb s.heap)
    (hd : d + 16 < recursionLimit) (hu : u + 200 < cLine) (hx : x.length ≤ 1000) (hx2 : x.cps.size ≤ 1000)
    (f : Fit Rx.codeA 5 200 x v x.cps.size) (ho : (List.range 5).map (grp v x) = [none, some b, some z, none, some e]) (hb0 : b.cps.size ≠ 0) (hb1 : b.cps.size ≤ 1000) (hb2 : b.length ≤ 600) (he0 : e.cps.size ≠ 0) (he1 : e.cps.size ≤ 1000) (he2 : e.length ≤ 600)
    (ret : ∀ y h' tk' t', 0 < tk' → Ext s.heap h' → y = acOut [none, some b, none, some e] → Q (.str y t') { s with heap := h', toks := tk' }),
    wpAny (model PySem.Challenge.rw_ez0208_01.row.prog w) ⟨none, d, fr, gd, u⟩ (call (.ref 48) [.str x t] []) Q E s := by
  k_fill
  intro w mg mb mean d u fr gd s Q E x b z e v t X T hd hu hx hx2 f ho hb0 hb1 hb2 he0 he1 he2 ret
  obtain ⟨g0, g1, g2, g3, g4⟩ := grp5 ho
  k_dflt (refine' enterK (args := ⟨[.str x t], []⟩) X T ?k1 ?k2 ?k3 ?k4 ?k5 ?_ ?c1 ?c2 ?c3 ?c4; (case k1 => k_is); (case k2 => k_is); (case k3 => (dsimp only; omega)); (case k4 => exact BindsTo.of_eq rfl); (case k5 => exact locs rfl); (case c1 => rfl); (case c2 => rfl); (case c3 => rfl); (case c4 => decide); k_whole)
  intro L' h' F' N'
  (try dsimp only)
  (try k_fold)
  k_steps
  all_goals (
    (with_reducible rename Fr _ _ _ _ => F9)
    (try dsimp only [qk])
    (try dsimp only)
    refine ret _ _ _ _ ?_ (fun b o e => F9.keep b o e) ?_)
  all_goals first | omega | (simp only [emp]; rfl)
end Mine
end
section
open PySem PySem.W PySem.Calls PySem.Spec PyProof.Rows
set_option Elab.async false
set_option maxRecDepth 100000
set_option linter.unusedVariables false
namespace Mine
theorem cpsA (x y : Str) : (x ++ y).cps = x.cps ++ y.cps := rfl
theorem oS_str {a : Str} (h : 1 ≤ a.cps.size) : oS a.cps.toList = some a := by
  unfold oS
  rw [if_neg]
  intro e
  have : a.cps.toList.length = 0 := by rw [e]; rfl
  rw [Array.length_toList] at this
  omega
theorem oS_nil : oS [] = none := rfl
/-- a half: its letters and its digits -/
structure Hf (g : Seg) (p q : Option Str) : Prop where
  ok : g.Ok
  ls : oS g.ls = p
  ns : oS g.ns = q
  n : g.ns.length ≤ 20
  nq : ∀ c ∈ g.ls ++ g.ns, Rx.nqOk c = true
theorem hf_lr {a b : Str} {c r : Int} (d1 d2 : Bool) (ha : Let a c) (hb : Dig b r) : Hf ⟨d1, a.cps.toList, d2, b.cps.toList⟩ (some a) (some b) := by
  have h1 : a.cps.toList.length = a.cps.size := Array.length_toList
  have h2 : b.cps.toList.length = b.cps.size := Array.length_toList
  have h3 := ha.lo
  have h4 := ha.hi
  have h5 := hb.hi
  refine ⟨⟨ha.let_, by show a.cps.toList.length ≤ 3; omega, hb.dig, fun e => ?_⟩, oS_str ha.lo, oS_str hb.lo, by show b.cps.toList.length ≤ 20; omega, fun c hc => ?_⟩
  · have e' : a.cps.toList = [] := e
    rw [e'] at h1
    exact absurd h1 (by simp; omega)
  · rcases List.mem_append.mp hc with h | h
    · exact ha.nq c h
    · exact hb.nq c h
theorem hf_l {a : Str} {c : Int} (d1 : Bool) (ha : Let a c) : Hf ⟨d1, a.cps.toList, false, []⟩ (some a) none := by
  have h1 : a.cps.toList.length = a.cps.size := Array.length_toList
  have h4 := ha.hi
  refine ⟨⟨ha.let_, by show a.cps.toList.length ≤ 3; omega, fun _ h => (nomatch h), fun _ => rfl⟩, oS_str ha.lo, rfl, by show 0 ≤ 20; omega, fun c hc => ?_⟩
  rcases List.mem_append.mp hc with h | h
  · exact ha.nq c h
  · nomatch h
theorem hf_r {b : Str} {r : Int} (d : Bool) (hb : Dig b r) : Hf ⟨d, [], false, b.cps.toList⟩ none (some b) := by
  have h2 : b.cps.toList.length = b.cps.size := Array.length_toList
  have h5 := hb.hi
  refine ⟨⟨fun _ h => (nomatch h), by show 0 ≤ 3; omega, hb.dig, fun _ => rfl⟩, rfl, oS_str hb.lo, by show b.cps.toList.length ≤ 20; omega, fun c hc => ?_⟩
  rcases List.mem_append.mp hc with h | h
  · nomatch h
  · exact hb.nq c h
theorem nq_dl {b : Bool} : ∀ c ∈ dl b, Rx.nqOk c = true := by cases b <;> decide +kernel
theorem Hf.nqs {g : Seg} {p q : Option Str} (h : Hf g p q) : ∀ c ∈ g.cps, Rx.nqOk c = true := by
  intro c hc
  unfold Seg.cps at hc
  simp only [List.mem_append] at hc
  rcases hc with h1 | h1 | h1 | h1
  · exact nq_dl c h1
  · exact h.nq c (List.mem_append_left _ h1)
  · exact nq_dl c h1
  · exact h.nq c (List.mem_append_right _ h1)
theorem Hf.len {g : Seg} {p q : Option Str} (h : Hf g p q) : g.cps.length ≤ 25 := by
  rw [g.len]
  have h1 := h.ok.a3
  have h2 := h.n
  have h3 : g.d1.toNat ≤ 1 := by cases g.d1 <;> decide
  have h4 : g.d2.toNat ≤ 1 := by cases g.d2 <;> decide
  omega
def One (x : Str) (p q : Option Str) : Prop := ∃ g, Hf g p q ∧ x.cps = g.cps.toArray ∧ 1 ≤ g.cps.length
def Two (x : Str) (p q p' q' : Option Str) : Prop := ∃ g g', Hf g p q ∧ Hf g' p' q' ∧ x.cps = (g.cps ++ 58 :: g'.cps).toArray
theorem One.size {x : Str} {p q : Option Str} (h : One x p q) : 0 < x.cps.size ∧ x.cps.size ≤ 60 := by
  obtain ⟨g, h, e, l⟩ := h
  have := h.len
  rw [e, List.size_toArray]
  omega
theorem Two.size {x : Str} {p q p' q' : Option Str} (h : Two x p q p' q') : 0 < x.cps.size ∧ x.cps.size ≤ 60 := by
  obtain ⟨g, g', h, h', e⟩ := h
  have h1 := h.len
  have h2 := h'.len
  rw [e, List.size_toArray, List.length_append, List.length_cons]
  omega
theorem nq_at {x : Str} {l : List Nat} (e : x.cps = l.toArray) (h : ∀ c ∈ l, Rx.nqOk c = true) : ∀ j, j < x.cps.size → Rx.nqOk (x.cps.getD j 0) = true := by
  intro j hj
  rw [e] at hj ⊢
  rw [List.size_toArray] at hj
  rw [Array.getD_eq_getD_getElem?]
  simp only [List.getElem?_toArray]
  rw [List.getElem?_eq_getElem hj]
  exact h _ (List.getElem_mem hj)
theorem One.nq {x : Str} {p q : Option Str} (h : One x p q) : ∀ j, j < x.cps.size → Rx.nqOk (x.cps.getD j 0) = true := by
  obtain ⟨g, h, e, l⟩ := h
  exact nq_at e h.nqs
theorem Two.nq {x : Str} {p q p' q' : Option Str} (h : Two x p q p' q') : ∀ j, j < x.cps.size → Rx.nqOk (x.cps.getD j 0) = true := by
  obtain ⟨g, g', h, h', e⟩ := h
  refine nq_at e fun c hc => ?_
  rcases List.mem_append.mp hc with h1 | h1
  · exact h.nqs c h1
  · rcases List.mem_cons.mp h1 with rfl | h1
    · decide +kernel
    · exact h'.nqs c h1
theorem One.grp {x : Str} {p q : Option Str} (h : One x p q) : Grp x [p, q, none, none, none] := by
  have hs := h.size
  obtain ⟨g, h, e, l⟩ := h
  obtain ⟨v, f, ho⟩ := fit_one h.ok h.n e
  rw [h.ls, h.ns] at ho
  exact ⟨Nat.le_trans hs.2 (by decide), Nat.le_trans hs.2 (by decide), v, f, ho⟩
theorem Two.grp {x : Str} {p q p' q' : Option Str} (h : Two x p q p' q') : ∃ z, Grp x [p, q, some z, p', q'] ∧ z.cps.size ≠ 0 ∧ z.cps.size ≤ 100 := by
  have hs := h.size
  obtain ⟨g, g', h, h', e⟩ := h
  obtain ⟨v, z, f, ho, z1, z2⟩ := fit_two h.ok h'.ok h.n h'.n e
  rw [h.ls, h.ns, h'.ls, h'.ns] at ho
  exact ⟨z, ⟨Nat.le_trans hs.2 (by decide), Nat.le_trans hs.2 (by decide), v, f, ho⟩, z1, Nat.le_trans z2 (by decide)⟩
theorem Let.cel {a : Str} {c : Int} (h : Let a c) : Cel a c := ⟨h.col, by have := h.lo; omega, h.hi⟩
theorem Dig.row {b : Str} {r : Int} (h : Dig b r) : Row b r := by
  have h1 := h.hi
  have h2 := h.lo
  have h3 : b.length = b.cps.size := rfl
  exact ⟨h.val, by omega, by omega, by omega⟩
/-- the four parts of a text and what is told -/
inductive Shape : Option Str → Option Str → Option Str → Option Str → Option Int → Option Int → Option Int → Option Int → Nat → Prop
  | two {a b a' b' c r c' r'} : Let a c → Dig b r → Let a' c' → Dig b' r' → Shape (some a) (some b) (some a') (some b') (some c) (some r) (some c') (some r') 4
  | cols {a a' c c'} : Let a c → Let a' c' → Shape (some a) none (some a') none (some c) none (some c') none 2
  | rows {b b' r r'} : Dig b r → Dig b' r' → Shape none (some b) none (some b') none (some r) none (some r') 2
theorem one_bounds {x a b : Str} {c r : Int} (h : One x (some a) (some b)) (ha : Let a c) (hb : Dig b r) : Bounds x (some c) (some r) (some c) (some r) := .one h.grp ha.cel hb.row
theorem two_bounds {x : Str} {p q p' q' : Option Str} {o1 o2 o3 o4 : Option Int} {k : Nat} (h : Two x p q p' q') (S : Shape p q p' q' o1 o2 o3 o4 k) : Bounds x o1 o2 o3 o4 := by
  obtain ⟨z, g, z1, z2⟩ := h.grp
  cases S with
  | two ha hb ha' hb' => exact .two g z1 z2 ha.cel hb.row ha'.cel hb'.row
  | cols ha ha' => exact .cols g z1 z2 ha.cel ha'.cel
  | rows hb hb' => exact .rows g z1 z2 hb.row hb'.row
theorem oS_inv {l : List Nat} {p : Option Str} (h : oS l = p) : (l = [] ∧ p = none) ∨ (l ≠ [] ∧ p = some ⟨l.toArray⟩) := by
  unfold oS at h
  by_cases e : l = []
  · rw [if_pos e] at h; exact .inl ⟨e, h.symm⟩
  · rw [if_neg e] at h; exact .inr ⟨e, h.symm⟩
theorem cps_d : (Str.ofString "$").cps = #[36] := by decide +kernel
theorem cps_e : (Str.ofString "").cps = #[] := by decide +kernel
theorem cps_c : (Str.ofString ":").cps = #[58] := by decide +kernel
/-- the half with all dollars -/
theorem hf_all {p q : Option Str} {g : Seg} (h : Hf g p q) (hn : p ≠ none ∨ q ≠ none) : ∃ g', Hf g' p q ∧ (dlo p ++ dlo q).cps = g'.cps.toArray ∧ 1 ≤ g'.cps.length ∧ g'.cps.filter (· == 36) = List.replicate (p.isSome.toNat + q.isSome.toNat) 36 := by
  have ok := h.ok
  have no1 : ∀ c ∈ g.ls, c ≠ 36 := fun c hc e => by
    have := ok.let_ c hc
    rw [e] at this
    exact absurd this (by decide +kernel)
  have no2 : ∀ c ∈ g.ns, c ≠ 36 := fun c hc => (ok.dig c hc).2.1
  have f1 : g.ls.filter (· == 36) = [] := by rw [List.filter_eq_nil_iff]; intro c hc; simpa using no1 c hc
  have f2 : g.ns.filter (· == 36) = [] := by rw [List.filter_eq_nil_iff]; intro c hc; simpa using no2 c hc
  rcases oS_inv h.ls with ⟨e1, e2⟩ | ⟨e1, e2⟩ <;> rcases oS_inv h.ns with ⟨e3, e4⟩ | ⟨e3, e4⟩
  · rcases hn with x | x
    · exact absurd e2 x
    · exact absurd e4 x
  · refine ⟨⟨true, [], false, g.ns⟩, ⟨⟨fun _ h => (nomatch h), Nat.zero_le _, ok.dig, fun _ => rfl⟩, by rw [e2]; rfl, h.ns, h.n, fun c hc => h.nq c (List.mem_append_right _ (by simpa using hc))⟩, ?_, ?_, ?_⟩
    · rw [e2, e4, cpsA]; unfold dlo; rw [cpsA, cps_d, cps_e]; apply Array.ext'; simp [Seg.cps, dl]
    · simp [Seg.cps, dl]
    · rw [e2, e4]; simp [Seg.cps, dl, f2]
  · refine ⟨⟨true, g.ls, false, []⟩, ⟨⟨ok.let_, ok.a3, fun _ h => (nomatch h), fun _ => rfl⟩, h.ls, by rw [e4]; rfl, Nat.zero_le _, fun c hc => h.nq c (List.mem_append_left _ (by simpa using hc))⟩, ?_, ?_, ?_⟩
    · rw [e2, e4, cpsA]; unfold dlo; rw [cpsA, cps_d, cps_e]; apply Array.ext'; simp [Seg.cps, dl]
    · simp [Seg.cps, dl]
    · rw [e2, e4]; simp [Seg.cps, dl, f1]
  · refine ⟨⟨true, g.ls, true, g.ns⟩, ⟨⟨ok.let_, ok.a3, ok.dig, fun e => absurd e e1⟩, h.ls, h.ns, h.n, h.nq⟩, ?_, ?_, ?_⟩
    · rw [e2, e4, cpsA]; unfold dlo; rw [cpsA, cpsA, cps_d]; apply Array.ext'; simp [Seg.cps, dl]
    · simp [Seg.cps, dl]
    · rw [e2, e4]; simp [Seg.cps, dl, f1, f2]
def cnt (y : Str) : Nat := (y.cps.toList.filter (· == 36)).length
theorem one_abs {x a b : Str} (h : One x (some a) (some b)) : One (acOut [some a, some b, none, none]) (some a) (some b) ∧ cnt (acOut [some a, some b, none, none]) = 2 := by
  obtain ⟨g, h, e, l⟩ := h
  obtain ⟨g', h', e', l', c'⟩ := hf_all h (.inl (by simp))
  refine ⟨⟨g', h', e', l'⟩, ?_⟩
  show ((dlo (some a) ++ dlo (some b)).cps.toList.filter (· == 36)).length = 2
  rw [e']
  show (g'.cps.filter (· == 36)).length = 2
  rw [c']
  rfl
theorem two_abs {x : Str} {p q p' q' : Option Str} {o1 o2 o3 o4 : Option Int} {k : Nat} (h : Two x p q p' q') (S : Shape p q p' q' o1 o2 o3 o4 k) : Two (acOut [p, q, p', q']) p q p' q' ∧ cnt (acOut [p, q, p', q']) = k := by
  have sh : (p ≠ none ∨ q ≠ none) ∧ (p' ≠ none ∨ q' ≠ none) ∧ acOut [p, q, p', q'] = dlo p ++ dlo q ++ Str.ofString ":" ++ dlo p' ++ dlo q' ∧ k = p.isSome.toNat + q.isSome.toNat + (p'.isSome.toNat + q'.isSome.toNat) := by
    cases S <;> exact ⟨by simp, by simp, rfl, rfl⟩
  obtain ⟨n1, n2, ea, ek⟩ := sh
  obtain ⟨g, g', h, h', e⟩ := h
  obtain ⟨f, hf, e1, l1, c1⟩ := hf_all h n1
  obtain ⟨f', hf', e2, l2, c2⟩ := hf_all h' n2
  have key : (acOut [p, q, p', q']).cps = (f.cps ++ 58 :: f'.cps).toArray := by
    rw [ea, cpsA, cpsA, cpsA, e1, cps_c]
    rw [cpsA] at e2
    rw [Array.append_assoc, e2]
    apply Array.ext'
    simp
  refine ⟨⟨f, f', hf, hf', key⟩, ?_⟩
  unfold cnt
  rw [key]
  show ((f.cps ++ 58 :: f'.cps).filter (· == 36)).length = k
  rw [List.filter_append, List.filter_cons_of_neg (by decide), c1, c2, ek]
  simp
end Mine
end
section
open PySem PySem.W PySem.Calls PySem.Spec PyProof.Rows
set_option Elab.async false
set_option maxRecDepth 100000
set_option maxHeartbeats 4000000
set_option linter.unusedVariables false
namespace Mine
local macro_rules | `(tactic| walk_at "call builtin:str.format") => `(tactic| ((with_reducible show wpAny _ _ (call (Value.builtin "str.format") [Value.str _ _, Value.str _ _]) _ _ _); k_dflt (refine fmt_q (by omega) ?_); intro t' k'))
local macro_rules | `(tactic| walk_at "execs nil") => `(tactic| (k_here; (refine gen_pos (by omega) ?_); intro tk' tp'; (with_reducible refine wpAny_execs_nil ?_); try dsimp only))
local macro_rules | `(tactic| walk_at "execs cons") => `(tactic| (k_here; (refine gen_pos (by omega) ?_); intro tk' tp'; (with_reducible refine wpAny_execs_cons ?_); try dsimp only))
theorem rep_q {prog : Program} {w : World} {A : Around} {E : Value → Shared → Prop} {s : Shared} {Q : Value → Shared → Prop} {x : Str} {t : Tok} {k : Nat} (hk : 0 < k) (hx : x.length ≤ 10)
    {R : Str} (hR : Txt.replace x (Str.ofString "'") (Str.ofString "''") = R) (h : ∀ t' k', Q (.str R t') { s with toks := k' }) : wpAny (model prog w) A (call (.builtin "str.replace") [.str x t, .str (Str.ofString "'") k, .str (Str.ofString "''") (k + 1)]) Q E s := by
  subst hR
  exact SC.replaceW (Nat.ne_of_gt hk) (Nat.succ_ne_zero k) (Nat.ne_of_lt (Nat.lt_succ_self k)) (by decide +kernel) (by omega) (by decide +kernel) h
local macro_rules | `(tactic| walk_at "call builtin:str.replace") => `(tactic| (k_dflt (refine rep_q (by omega) (by omega) (by assumption) ?_); intro t' k'))
theorem quote_c : ∀ {w : World} {mg mb : Str → Option Value} {d u : Nat} {fr : Option (List Env)} {gd : Option (List Code)} {s : Shared} {Q E : Value → Shared → Prop} {x R : Str} {t : Tok}
    (X : (Mine.hd.heap_39 w.params).In s.heap) (T : TopRead Mine.hd.view_39 LO mg mb s.heap)
    (hd : d + 8 < recursionLimit) (hu : u + 60 < cLine) (hx : x.length ≤ 10) (hR : Txt.replace x (Str.ofString "'") (Str.ofString "''") = R) (hRl : R.length ≤ 20) (hn : (Builtin.Str.occurrences x (Str.ofString "'") 0 x.length 1).isEmpty = true → R = x)
    (ret : ∀ h' tk' t', Ext s.heap h' → Q (.str (Str.ofString "'" ++ R ++ Str.ofString "'") t') { s with heap := h', toks := tk' }),
    wpAny (model PySem.Challenge.rw_ez0208_01.row.prog w) ⟨none, d, fr, gd, u⟩ (call (.ref 99) [.str x t] []) Q E s := by
  k_fill
  intro w mg mb d u fr gd s Q E x R t X T hd hu hx hR hRl hn ret
  k_dflt (refine' enterK (args := ⟨[.str x t], []⟩) X T ?k1 ?k2 ?k3 ?k4 ?k5 ?_ ?c1 ?c2 ?c3 ?c4; (case k1 => k_is); (case k2 => k_is); (case k3 => (dsimp only; omega)); (case k4 => exact BindsTo.of_eq rfl); (case k5 => exact locs rfl); (case c1 => rfl); (case c2 => rfl); (case c3 => rfl); (case c4 => decide); k_whole)
  intro L' h' F' N'
  (try dsimp only)
  (try k_fold)
  k_steps
  all_goals (
    (with_reducible rename Fr _ _ _ _ => F9)
    (try dsimp only [qk])
    (try dsimp only)
    first
      | exact ret _ _ _ (fun b o e => F9.keep b o e)
      | (have e9 : R = x := hn (by assumption)
         rw [← e9]
         exact ret _ _ _ (fun b o e => F9.keep b o e)))
end Mine
end
section
open PySem PySem.W PySem.Calls PySem.Spec PyProof.Rows
set_option Elab.async false
set_option maxRecDepth 100000
set_option linter.unusedVariables false
namespace Mine
def nmOk (c : Nat) : Bool := c == 97 || c == 39 || c == 98 || c == 32 || c == 33
def rq (l : List Nat) : Str := Txt.replace ⟨l.toArray⟩ (Str.ofString "'") (Str.ofString "''")
noncomputable def good (l : List Nat) : Bool := (rq l).cps.toList == Rx.dbl l && (!(Builtin.Str.occurrences ⟨l.toArray⟩ (Str.ofString "'") 0 l.length 1).isEmpty || Rx.dbl l == l) && decide ((Rx.dbl l).length ≤ 20)
def cs : List Nat := [97, 39, 98, 32, 33]
noncomputable def lists : Nat → List (List Nat)
  | 0 => [[]]
  | n + 1 => cs.flatMap fun c => (lists n).map (c :: ·)
theorem mem_lists : ∀ (n : Nat) (l : List Nat), l.length = n → (∀ c ∈ l, c ∈ cs) → l ∈ lists n
  | 0, [], _, _ => .head _
  | n + 1, c :: l, h, hc => by
    refine List.mem_flatMap.mpr ⟨c, hc c (.head _), List.mem_map.mpr ⟨l, mem_lists n l (by simpa using h) (fun x hx => hc x (.tail _ hx)), rfl⟩⟩
theorem good_1 : (lists 1).all good = true := by decide +kernel
theorem good_2 : (lists 2).all good = true := by decide +kernel
theorem good_3 : (lists 3).all good = true := by decide +kernel
theorem good_4a : ((lists 3).map (97 :: ·)).all good = true := by decide +kernel
theorem good_4b : ((lists 3).map (39 :: ·)).all good = true := by decide +kernel
theorem good_4c : ((lists 3).map (98 :: ·)).all good = true := by decide +kernel
theorem good_4d : ((lists 3).map (32 :: ·)).all good = true := by decide +kernel
theorem good_4e : ((lists 3).map (33 :: ·)).all good = true := by decide +kernel
theorem good_4 : (lists 4).all good = true := by
  show (cs.flatMap fun c => (lists 3).map (c :: ·)).all good = true
  simp only [cs, List.flatMap_cons, List.flatMap_nil, List.all_append, List.append_nil, good_4a, good_4b, good_4c, good_4d, good_4e, Bool.and_self]
theorem good_of {l : List Nat} (h1 : 1 ≤ l.length) (h4 : l.length ≤ 4) (hc : ∀ c ∈ l, c ∈ cs) : good l = true := by
  have hn : l.length = 1 ∨ l.length = 2 ∨ l.length = 3 ∨ l.length = 4 := by omega
  rcases hn with h | h | h | h
  · exact List.all_eq_true.mp good_1 l (mem_lists _ l h hc)
  · exact List.all_eq_true.mp good_2 l (mem_lists _ l h hc)
  · exact List.all_eq_true.mp good_3 l (mem_lists _ l h hc)
  · exact List.all_eq_true.mp good_4 l (mem_lists _ l h hc)
theorem name_facts {l : List Nat} (h1 : 1 ≤ l.length) (h4 : l.length ≤ 4) (hc : ∀ c ∈ l, c ∈ cs) : (rq l).cps = (Rx.dbl l).toArray ∧ ((Builtin.Str.occurrences ⟨l.toArray⟩ (Str.ofString "'") 0 l.length 1).isEmpty = true → Rx.dbl l = l) ∧ (Rx.dbl l).length ≤ 20 := by
  have h := good_of h1 h4 hc
  unfold good at h
  simp only [Bool.and_eq_true, beq_iff_eq, Bool.or_eq_true, Bool.not_eq_true', decide_eq_true_eq] at h
  obtain ⟨⟨a, b⟩, c⟩ := h
  refine ⟨by apply Array.ext'; simpa using a, fun q => ?_, c⟩
  rcases b with b | b
  · rw [q] at b; cases b
  · exact b
end Mine
end
section
open PySem PySem.W PySem.Calls PySem.Spec PyProof.Rows
set_option Elab.async false
set_option maxRecDepth 100000
set_option linter.unusedVariables false
namespace Mine
/-- x tells the bounds, y is x with all dollars, k of them -/
inductive Told (x y : Str) : Option Int → Option Int → Option Int → Option Int → Nat → Prop
  | one {a b c r} : One x (some a) (some b) → Let a c → Dig b r → y = acOut [some a, some b, none, none] → Told x y (some c) (some r) (some c) (some r) 2
  | two {p q p' q' o1 o2 o3 o4 k} : Two x p q p' q' → Shape p q p' q' o1 o2 o3 o4 k → y = acOut [p, q, p', q'] → Told x y o1 o2 o3 o4 k
theorem Told.bounds {x y : Str} {o1 o2 o3 o4 : Option Int} {k : Nat} (h : Told x y o1 o2 o3 o4 k) : Bounds x o1 o2 o3 o4 := by
  cases h with
  | one h ha hb e => exact one_bounds h ha hb
  | two h S e => exact two_bounds h S
theorem Told.whole {x y : Str} {o1 o2 o3 o4 : Option Int} {k : Nat} (h : Told x y o1 o2 o3 o4 k) : Told y y o1 o2 o3 o4 k := by
  cases h with
  | one h ha hb e => subst e; exact .one (one_abs h).1 ha hb rfl
  | two h S e => subst e; exact .two (two_abs h S).1 S rfl
theorem Told.cnt {x y : Str} {o1 o2 o3 o4 : Option Int} {k : Nat} (h : Told x y o1 o2 o3 o4 k) : cnt y = k := by
  cases h with
  | one h ha hb e => subst e; exact (one_abs h).2
  | two h S e => subst e; exact (two_abs h S).2
theorem Told.size {x y : Str} {o1 o2 o3 o4 : Option Int} {k : Nat} (h : Told x y o1 o2 o3 o4 k) : 0 < x.cps.size ∧ x.cps.size ≤ 60 := by
  cases h with
  | one h ha hb e => exact h.size
  | two h S e => exact h.size
theorem Told.nosheet {x y : Str} {o1 o2 o3 o4 : Option Int} {k : Nat} (h : Told x y o1 o2 o3 o4 k) : Rx.Ends (5 * x.cps.size + 50) (Sre.forMatch Rx.codeS x.cps 11 0 x.cps.size false false) (fun m' => m'.outcome = some .failed) := by
  have hs := h.size
  refine Rx.sheet_none hs.1 (by omega) ?_
  cases h with
  | one h ha hb e => exact h.nq
  | two h S e => exact h.nq
theorem Told.sheet {x y R X : Str} {l : List Nat} {o1 o2 o3 o4 : Option Int} {k : Nat} (h : Told x y o1 o2 o3 o4 k) (hl : l.length ≤ 4) (hR : R.cps = (Rx.dbl l).toArray) (hd : (Rx.dbl l).length ≤ 20) (hX : X = Str.ofString "'" ++ R ++ Str.ofString "'" ++ Str.ofString "!" ++ x) :
    ∃ v, Fit Rx.codeS 11 30000 X v X.cps.size ∧ grp v X 2 = some R ∧ grp v X 4 = none ∧ grp v X 5 = some x := by
  have q1 : (Str.ofString "'").cps = #[39] := by decide +kernel
  have q2 : (Str.ofString "!").cps = #[33] := by decide +kernel
  have eX : X.cps = (39 :: (Rx.dbl l ++ 39 :: 33 :: x.cps.toList)).toArray := by
    rw [hX, cpsA, cpsA, cpsA, cpsA, q1, q2, hR]
    apply Array.ext'
    simp
  have eR : (⟨(Rx.dbl l).toArray⟩ : Str) = R := by rw [← hR]
  cases h with
  | one h ha hb e =>
    obtain ⟨g, h, e1, l1⟩ := h
    have ex : (⟨g.cps.toArray⟩ : Str) = x := by rw [← e1]
    obtain ⟨v, f, a, b, c⟩ := sheet_fit_one (nm := l) h.ok h.n (by omega) hd (by rw [eX, e1])
    rw [eR] at a
    rw [ex] at c
    exact ⟨v, f, a, b, c⟩
  | two h S e =>
    obtain ⟨g, g', h, h', e1⟩ := h
    have ex : (⟨(g.cps ++ 58 :: g'.cps).toArray⟩ : Str) = x := by rw [← e1]
    obtain ⟨v, f, a, b, c⟩ := sheet_fit_two (nm := l) h.ok h'.ok h.n h'.n (by omega) hd (by rw [eX, e1])
    rw [eR] at a
    rw [ex] at c
    exact ⟨v, f, a, b, c⟩
theorem d_bool {d : Str} (h : d = Str.ofString "$" ∨ d = Str.ofString "") : ∃ b : Bool, d.cps = (dl b).toArray := by
  rcases h with rfl | rfl
  · exact ⟨true, cps_d⟩
  · exact ⟨false, cps_e⟩
theorem half_lr {y : Str} {c r : Int} (h : PartLR y c r) (hc : IsC c) (h1 : 1 ≤ r) (h2 : r ≤ 15) : ∃ g a b, Hf g (some a) (some b) ∧ Let a c ∧ Dig b r ∧ y.cps = g.cps.toArray ∧ 1 ≤ g.cps.length := by
  obtain ⟨d1, d2, l, e1, e2, hl, rfl⟩ := h
  obtain ⟨b1, e1⟩ := d_bool e1
  obtain ⟨b2, e2⟩ := d_bool e2
  have La := let_c hc hl
  refine ⟨_, l, _, hf_lr b1 b2 La (dig_r h1 h2), La, dig_r h1 h2, ?_, ?_⟩
  · rw [cpsA, cpsA, cpsA, e1, e2]
    apply Array.ext'
    simp [Seg.cps]
  · have := La.lo
    rw [Seg.len]
    show 1 ≤ b1.toNat + l.cps.toList.length + _ + _
    rw [Array.length_toList]
    omega
theorem half_l {y : Str} {c : Int} (h : PartL y c) (hc : IsC c) : ∃ g a, Hf g (some a) none ∧ Let a c ∧ y.cps = g.cps.toArray := by
  obtain ⟨d1, l, e1, hl, rfl⟩ := h
  obtain ⟨b1, e1⟩ := d_bool e1
  have La := let_c hc hl
  refine ⟨_, l, hf_l b1 La, La, ?_⟩
  rw [cpsA, e1]
  apply Array.ext'
  simp [Seg.cps, dl]
theorem half_r {y : Str} {r : Int} (h : PartR y r) (h1 : 1 ≤ r) (h2 : r ≤ 15) : ∃ g b, Hf g none (some b) ∧ Dig b r ∧ y.cps = g.cps.toArray := by
  obtain ⟨d2, e2, rfl⟩ := h
  obtain ⟨b2, e2⟩ := d_bool e2
  refine ⟨_, _, hf_r b2 (dig_r h1 h2), dig_r h1 h2, ?_⟩
  rw [cpsA, cpsA, cps_e, e2]
  apply Array.ext'
  simp [Seg.cps, dl]
theorem join_cps {y1 y2 : Str} {l1 l2 : List Nat} (h1 : y1.cps = l1.toArray) (h2 : y2.cps = l2.toArray) : (y1 ++ Str.ofString ":" ++ y2).cps = (l1 ++ 58 :: l2).toArray := by
  rw [cpsA, cpsA, h1, h2, cps_c]
  apply Array.ext'
  simp
theorem told_one {x : Str} {c r : Int} (h : PartLR x c r) (hc : IsC c) (h1 : 1 ≤ r) (h2 : r ≤ 15) : ∃ y, Told x y (some c) (some r) (some c) (some r) 2 := by
  obtain ⟨g, a, b, hf, ha, hb, e, l⟩ := half_lr h hc h1 h2
  exact ⟨_, .one ⟨g, hf, e, l⟩ ha hb rfl⟩
theorem told_two {x1 x2 : Str} {c r c' r' : Int} (h : PartLR x1 c r) (h' : PartLR x2 c' r') (hc : IsC c) (h1 : 1 ≤ r) (h2 : r ≤ 15) (hc' : IsC c') (h1' : 1 ≤ r') (h2' : r' ≤ 15) : ∃ y, Told (x1 ++ Str.ofString ":" ++ x2) y (some c) (some r) (some c') (some r') 4 := by
  obtain ⟨g, a, b, hf, ha, hb, e, l⟩ := half_lr h hc h1 h2
  obtain ⟨g', a', b', hf', ha', hb', e', l'⟩ := half_lr h' hc' h1' h2'
  exact ⟨_, .two ⟨g, g', hf, hf', join_cps e e'⟩ (.two ha hb ha' hb') rfl⟩
theorem told_cols {x1 x2 : Str} {c c' : Int} (h : PartL x1 c) (h' : PartL x2 c') (hc : IsC c) (hc' : IsC c') : ∃ y, Told (x1 ++ Str.ofString ":" ++ x2) y (some c) none (some c') none 2 := by
  obtain ⟨g, a, hf, ha, e⟩ := half_l h hc
  obtain ⟨g', a', hf', ha', e'⟩ := half_l h' hc'
  exact ⟨_, .two ⟨g, g', hf, hf', join_cps e e'⟩ (.cols ha ha') rfl⟩
theorem told_rows {x1 x2 : Str} {r r' : Int} (h : PartR x1 r) (h' : PartR x2 r') (h1 : 1 ≤ r) (h2 : r ≤ 15) (h1' : 1 ≤ r') (h2' : r' ≤ 15) : ∃ y, Told (x1 ++ Str.ofString ":" ++ x2) y none (some r) none (some r') 2 := by
  obtain ⟨g, b, hf, hb, e⟩ := half_r h h1 h2
  obtain ⟨g', b', hf', hb', e'⟩ := half_r h' h1' h2'
  exact ⟨_, .two ⟨g, g', hf, hf', join_cps e e'⟩ (.rows hb hb') rfl⟩
theorem lack_1 {x1 x2 : Str} {c c' r' : Int} (h : PartL x1 c) (h' : PartLR x2 c' r') (hc : IsC c) (hc' : IsC c') (h1' : 1 ≤ r') (h2' : r' ≤ 15) : Lacks (x1 ++ Str.ofString ":" ++ x2) := by
  obtain ⟨g, a, hf, ha, e⟩ := half_l h hc
  obtain ⟨g', a', b', hf', ha', hb', e', l'⟩ := half_lr h' hc' h1' h2'
  obtain ⟨z, G, z1, z2⟩ := Two.grp ⟨g, g', hf, hf', join_cps e e'⟩
  exact .x1 G z1 z2 ha.cel ha'.cel hb'.row
theorem lack_2 {x1 x2 : Str} {c r r' : Int} (h : PartLR x1 c r) (h' : PartR x2 r') (hc : IsC c) (h1 : 1 ≤ r) (h2 : r ≤ 15) (h1' : 1 ≤ r') (h2' : r' ≤ 15) : Lacks (x1 ++ Str.ofString ":" ++ x2) := by
  obtain ⟨g, a, b, hf, ha, hb, e, l⟩ := half_lr h hc h1 h2
  obtain ⟨g', b', hf', hb', e'⟩ := half_r h' h1' h2'
  obtain ⟨z, G, z1, z2⟩ := Two.grp ⟨g, g', hf, hf', join_cps e e'⟩
  exact .x2 G z1 z2 ha.cel hb.row hb'.row
theorem lack_3 {x1 x2 : Str} {c' r : Int} (h : PartR x1 r) (h' : PartL x2 c') (h1 : 1 ≤ r) (h2 : r ≤ 15) (hc' : IsC c') : Lacks (x1 ++ Str.ofString ":" ++ x2) := by
  obtain ⟨g, b, hf, hb, e⟩ := half_r h h1 h2
  obtain ⟨g', a', hf', ha', e'⟩ := half_l h' hc'
  obtain ⟨z, G, z1, z2⟩ := Two.grp ⟨g, g', hf, hf', join_cps e e'⟩
  exact .x3 G z1 z2 ha'.cel hb.row
/-- absolute_coordinate gives the text with all dollars -/
theorem ac_c {w : World} {mg mb : Str → Option Value} {d u : Nat} {fr : Option (List Env)} {gd : Option (List Code)} {s : Shared} {Q E : Value → Shared → Prop} {x y : Str} {o1 o2 o3 o4 : Option Int} {k : Nat} {t : Tok}
    (X : (Mine.hd.heap_39 w.params).In s.heap) (T : TopRead Mine.hd.view_39 LO mg mb s.heap)
    (hd : d + 16 < recursionLimit) (hu : u + 200 < cLine) (h : Told x y o1 o2 o3 o4 k)
    (ret : ∀ h' tk' t', 0 < tk' → Ext s.heap h' → Q (.str y t') { s with heap := h', toks := tk' }) :
    wpAny (model PySem.Challenge.rw_ez0208_01.row.prog w) ⟨none, d, fr, gd, u⟩ (call (.ref 48) [.str x t] []) Q E s := by
  have len : ∀ {a : Str} {c : Int}, Let a c → a.cps.size ≠ 0 ∧ a.cps.size ≤ 1000 ∧ a.length ≤ 600 := fun {a c} h => by
    have h1 := h.lo
    have h2 := h.hi
    have h3 : a.length = a.cps.size := rfl
    omega
  have len' : ∀ {a : Str} {c : Int}, Dig a c → a.cps.size ≠ 0 ∧ a.cps.size ≤ 1000 ∧ a.length ≤ 600 := fun {a c} h => by
    have h1 := h.lo
    have h2 := h.hi
    have h3 : a.length = a.cps.size := rfl
    omega
  have mean : ExcName → Option Value := fun _ => none
  cases h with
  | one h ha hb e =>
    obtain ⟨h1, h2, v, f, ho⟩ := h.grp
    obtain ⟨a1, a2, a3⟩ := len ha
    obtain ⟨b1, b2, b3⟩ := len' hb
    exact ac_one (mean := mean) X T hd hu h1 h2 f ho a1 a2 a3 b1 b2 b3 fun y' h' tk' t' p x' ey => by subst e ey; exact ret h' tk' t' p x'
  | two h S e =>
    obtain ⟨z, ⟨h1, h2, v, f, ho⟩, z1, z2⟩ := h.grp
    cases S with
    | two ha hb ha' hb' =>
      obtain ⟨a1, a2, a3⟩ := len ha
      obtain ⟨b1, b2, b3⟩ := len' hb
      obtain ⟨c1, c2, c3⟩ := len ha'
      obtain ⟨d1, d2, d3⟩ := len' hb'
      exact ac_two (mean := mean) X T hd hu h1 h2 f ho a1 a2 a3 b1 b2 b3 c1 c2 c3 d1 d2 d3 fun y' h' tk' t' p x' ey => by subst e ey; exact ret h' tk' t' p x'
    | cols ha ha' =>
      obtain ⟨a1, a2, a3⟩ := len ha
      obtain ⟨c1, c2, c3⟩ := len ha'
      exact ac_cols (mean := mean) X T hd hu h1 h2 f ho a1 a2 a3 c1 c2 c3 fun y' h' tk' t' p x' ey => by subst e ey; exact ret h' tk' t' p x'
    | rows hb hb' =>
      obtain ⟨b1, b2, b3⟩ := len' hb
      obtain ⟨d1, d2, d3⟩ := len' hb'
      exact ac_rows (mean := mean) X T hd hu h1 h2 f ho b1 b2 b3 d1 d2 d3 fun y' h' tk' t' p x' ey => by subst e ey; exact ret h' tk' t' p x'
end Mine
end
section
local macro_rules | `(tactic| walk_at "mine pad 0") => `(tactic| skip)
local macro_rules | `(tactic| walk_at "mine pad 1") => `(tactic| skip)
local macro_rules | `(tactic| walk_at "mine pad 2") => `(tactic| skip)
local macro_rules | `(tactic| walk_at "mine pad 3") => `(tactic| skip)
local macro_rules | `(tactic| walk_at "mine pad 4") => `(tactic| skip)
local macro_rules | `(tactic| walk_at "mine pad 5") => `(tactic| skip)
local macro_rules | `(tactic| walk_at "mine pad 6") => `(tactic| skip)
local macro_rules | `(tactic| walk_at "mine pad 7") => `(tactic| skip)
local macro_rules | `(tactic| walk_at "mine pad 8") => `(tactic| skip)
local macro_rules | `(tactic| walk_at "mine pad 9") => `(tactic| skip)
local macro_rules | `(tactic| walk_at "mine pad 10") => `(tactic| skip)
local macro_rules | `(tactic| walk_at "mine pad 11") => `(tactic| skip)
local macro_rules | `(tactic| walk_at "mine pad 12") => `(tactic| skip)
local macro_rules | `(tactic| walk_at "mine pad 13") => `(tactic| skip)
open PySem PySem.W PySem.Calls PySem.Spec PyProof.Rows
set_option Elab.async false
set_option maxRecDepth 100000
set_option maxHeartbeats 4000000
set_option linter.unusedVariables false
namespace Mine
theorem fresh_of {h : Heap} {D : Addr} (a : @LE.le Nat _ h.objs.size D) : h.get? D = none := by
  cases e : h.get? D with
  | none => rfl
  | some o => exact absurd (Heap.lt_size e) (Nat.not_lt.mpr a)
theorem news_new {h₀ h h' : Heap} {L D : Addr} {m : Str → Option Value} {news : List (Addr × Obj)} {o : Obj} (F : Fr h₀ L h m) (N : News h₀ L h news) (x : Ext h h') (hD : @LE.le Nat _ h.objs.size D) (hg : h'.get? D = some o) : News h₀ L h' ((D, o) :: news) ∧ ∀ p ∈ news, p.1 < D := by
  refine ⟨fun p hp => ?_, fun p hp => Nat.lt_of_lt_of_le (Heap.lt_size (N p hp).1) hD⟩
  rcases List.mem_cons.mp hp with rfl | hp
  · refine ⟨hg, fun e => absurd F.ns.lt (Nat.not_lt.mpr (e ▸ hD)), ?_⟩
    cases e : h₀.get? D with
    | none => rfl
    | some o => have := F.keep _ _ e; rw [fresh_of hD] at this; cases this
  · exact ⟨x _ _ (N p hp).1, (N p hp).2⟩
local macro_rules | `(tactic| walk_at "execs nil") => `(tactic| (k_here; (refine gen_pos (by omega) ?_); intro tk' tp'; (with_reducible refine wpAny_execs_nil ?_); try dsimp only))
local macro_rules | `(tactic| walk_at "execs cons") => `(tactic| (k_here; (refine gen_pos (by omega) ?_); intro tk' tp'; (with_reducible refine wpAny_execs_cons ?_); try dsimp only))
local macro_rules | `(tactic| walk_at "getMethod ref") => `(tactic| ((with_reducible show wpAny _ _ (getMethod (Value.ref _) (Str.ofString "match") _) _ _ _); refine pat_method ((patS (by assumption)).keep (Fr.keep (by assumption))) ?_))
local macro_rules | `(tactic| walk_at "getMethod ref") => `(tactic| ((with_reducible show wpAny _ _ (getMethod (Value.ref _) (Str.ofString "group") _) _ _ _); k_dflt (refine mat_method (by k_asm) (by k_mem) slot_group type_group ?_)))
local macro_rules | `(tactic| walk_at "call builtin:re.Pattern.match") => `(tactic| ((with_reducible show wpAny _ _ (call (Value.builtin "re.Pattern.match") [Value.ref _, Value.str _ _]) _ _ _); refine match_F (by k_asm) (by k_asm) ((patS (by assumption)).keep (Fr.keep (by assumption))) (by assumption) (by decide) ?_; intro T' M' li' h' F' N' l1 l2 l3; (try k_lt l1)))
local macro_rules | `(tactic| walk_at "call builtin:re.Match.group") => `(tactic| (k_dflt (first
  | refine group_F (g := 2) (by k_asm) (by k_asm) (by k_mem) (by k_mem) ((patS (by assumption)).keep (Fr.keep (by assumption))) ((names_quoted (by assumption)).keep (Fr.keep (by assumption))) (by decide) (by assumption) (by assumption) ?_
  | refine group_F (g := 4) (by k_asm) (by k_asm) (by k_mem) (by k_mem) ((patS (by assumption)).keep (Fr.keep (by assumption))) ((names_notquoted (by assumption)).keep (Fr.keep (by assumption))) (by decide) (by assumption) (by assumption) ?_
  | refine group_F (g := 5) (by k_asm) (by k_asm) (by k_mem) (by k_mem) ((patS (by assumption)).keep (Fr.keep (by assumption))) ((names_cells (by assumption)).keep (Fr.keep (by assumption))) (by decide) (by assumption) (by assumption) ?_); intro t' k'; (try dsimp only [strOr])))
local macro_rules | `(tactic| walk_at "truthy str") => `(tactic| (k_dflt (refine truthy_s (by assumption) (by omega) ?_); intro k'))
local macro_rules | `(tactic| walk_at "call ref") => `(tactic| ((with_reducible show wpAny _ _ (call (Value.ref 73) [Value.str _ _] _) _ _ _); (rename Fr _ _ _ _ => lF'); (rename News _ _ _ _ => lN'); k_dflt (refine' rb_c ?a ?b ?c ?d ?e ?_; (case a => exact ext_in (by assumption) (fr_ext lF')); (case b => exact ext_read (by assumption) (fr_ext lF')); (case c => (dsimp only [Around.deeper]; omega)); (case d => (dsimp only [Around.deeper]; omega)); (case e => assumption)); intro D' h' tk' t1' t2' t3' t4' p' x' lD' g'; (have F' := Fr.keeps lF' x'); (obtain ⟨N', l1⟩ := news_new lF' lN' x' lD' g'); clear lF' lN' x' lD' g'; (try k_lt l1)))
theorem rt_ok : ∀ {w : World} {mg mb : Str → Option Value} {d u : Nat} {fr : Option (List Env)} {gd : Option (List Code)} {s : Shared} {Q E : Value → Shared → Prop} {x q c : Str} {t : Tok} {v : Nat → Option Nat} {o1 o2 o3 o4 : Option Int}
    (X : (Mine.hd.heap_39 w.params).In s.heap) (T : TopRead Mine.hd.view_39 LO mg mb s.heap)
    (hd : d + 32 < recursionLimit) (hu : u + 400 < cLine) (hx2 : x.cps.size ≤ 1000) (f : Fit Rx.codeS 11 30000 x v x.cps.size) (hq : grp v x 2 = some q) (hno : grp v x 4 = none) (hc : grp v x 5 = some c) (hq0 : q.cps.size ≠ 0) (hq1 : q.cps.size ≤ 100)
    (hb : Bounds c o1 o2 o3 o4)
    (ret : ∀ D D2 h' tk' t' (t1 t2 t3 t4 : Tok), 0 < tk' → Ext s.heap h' → @LE.le Nat _ s.heap.objs.size D → @LE.le Nat _ s.heap.objs.size D2 → @LT.lt Nat _ D2 D → h'.get? D = some (tupObj [.str q t', .ref D2]) → h'.get? D2 = some (tupObj [iv o1 t1, iv o2 t2, iv o3 t3, iv o4 t4]) → Q (.ref D) { s with heap := h', toks := tk' }),
    wpAny (model PySem.Challenge.rw_ez0208_01.row.prog w) ⟨none, d, fr, gd, u⟩ (call (.ref 92) [.str x t] []) Q E s := by
  k_fill
  intro w mg mb d u fr gd s Q E x q c t v o1 o2 o3 o4 X T hd hu hx2 f hq hno hc hq0 hq1 hb ret
  k_dflt (refine' enterK (args := ⟨[.str x t], []⟩) X T ?k1 ?k2 ?k3 ?k4 ?k5 ?_ ?c1 ?c2 ?c3 ?c4; (case k1 => k_is); (case k2 => k_is); (case k3 => (dsimp only; omega)); (case k4 => exact BindsTo.of_eq rfl); (case k5 => exact locs rfl); (case c1 => rfl); (case c2 => rfl); (case c3 => rfl); (case c4 => decide); k_whole)
  intro L' h' F' N'
  (try dsimp only)
  (try k_fold)
  k_steps
  all_goals (
    (with_reducible rename Fr _ _ _ _ => F9)
    (with_reducible rename News _ _ _ _ => N9)
    have ab : @LE.le Nat _ s.heap.objs.size L' := F9.above
    (try dsimp only [qk])
    (try dsimp only)
    refine ret _ _ _ _ _ _ _ _ _ ?_ (fun b o e => F9.keep b o e) ?_ ?_ ?_ (N9 _ (.head _)).1 (N9 _ (.tail _ (.head _))).1 <;> omega)
end Mine
end
section
open PySem PySem.W PySem.Calls PySem.Spec PyProof.Rows
set_option Elab.async false
set_option maxRecDepth 100000
set_option maxHeartbeats 4000000
set_option linter.unusedVariables false
namespace Mine
theorem dq1 : Int.fdiv 1 26 = 0 := by decide
theorem dr1 : Int.fmod 1 26 = 1 := by decide
theorem dq26 : Int.fdiv 26 26 = 1 := by decide
theorem dr26 : Int.fmod 26 26 = 0 := by decide
theorem dq27 : Int.fdiv 27 26 = 1 := by decide
theorem dr27 : Int.fmod 27 26 = 1 := by decide
theorem dq28 : Int.fdiv 28 26 = 1 := by decide
theorem dr28 : Int.fmod 28 26 = 2 := by decide
theorem dq29 : Int.fdiv 29 26 = 1 := by decide
theorem dr29 : Int.fmod 29 26 = 3 := by decide
theorem dq701 : Int.fdiv 701 26 = 26 := by decide
theorem dr701 : Int.fmod 701 26 = 25 := by decide
theorem dq702 : Int.fdiv 702 26 = 27 := by decide
theorem dr702 : Int.fmod 702 26 = 0 := by decide
theorem dq703 : Int.fdiv 703 26 = 27 := by decide
theorem dr703 : Int.fmod 703 26 = 1 := by decide
theorem dq704 : Int.fdiv 704 26 = 27 := by decide
theorem dr704 : Int.fmod 704 26 = 2 := by decide
theorem dm_c {prog : Program} {w : World} {A : Around} {E : Value → Shared → Prop} {s : Shared} {h₀ : Heap} {L : Addr} {m : Str → Option Value} {news : List (Addr × Obj)} {a q r : Int} {t u : Tok} {Q : Value → Shared → Prop} (F : Fr h₀ L s.heap m) (N : News h₀ L s.heap news) (hq : Int.fdiv a 26 = q) (hr : Int.fmod a 26 = r) (hp : Builtin.divisionGoesByPylong a 26 = false)
    (h : ∀ D h' k t1 t2, Fr h₀ L h' m → News h₀ L h' ((D, { cls := .type "tuple", data := .seq #[.int q t1, .int r t2] }) :: news) → (∀ p ∈ news, p.1 < D) → Q (.ref D) { s with heap := h', toks := k }) :
    wpAny (model prog w) A (call (.builtin "divmod") [.int a t, .int 26 u]) Q E s := by
  subst hq hr
  exact divmod_N F N (by decide) (fun h' F' N' => h _ _ _ _ _ F' N' fun p hp => Heap.lt_size (N p hp).1) (.inl hp)
theorem dp1 : Builtin.divisionGoesByPylong 1 26 = false := by decide +kernel
theorem dp26 : Builtin.divisionGoesByPylong 26 26 = false := by decide +kernel
theorem dp27 : Builtin.divisionGoesByPylong 27 26 = false := by decide +kernel
theorem dp28 : Builtin.divisionGoesByPylong 28 26 = false := by decide +kernel
theorem dp29 : Builtin.divisionGoesByPylong 29 26 = false := by decide +kernel
theorem dp701 : Builtin.divisionGoesByPylong 701 26 = false := by decide +kernel
theorem dp702 : Builtin.divisionGoesByPylong 702 26 = false := by decide +kernel
theorem dp703 : Builtin.divisionGoesByPylong 703 26 = false := by decide +kernel
theorem dp704 : Builtin.divisionGoesByPylong 704 26 = false := by decide +kernel
local macro_rules | `(tactic| walk_at "call builtin:divmod") => `(tactic| ((rename Fr _ _ _ _ => lF'); (rename News _ _ _ _ => lN'); k_dflt (first | refine dm_c lF' lN' dq1 dr1 dp1 ?_ | refine dm_c lF' lN' dq26 dr26 dp26 ?_ | refine dm_c lF' lN' dq27 dr27 dp27 ?_ | refine dm_c lF' lN' dq28 dr28 dp28 ?_ | refine dm_c lF' lN' dq29 dr29 dp29 ?_ | refine dm_c lF' lN' dq701 dr701 dp701 ?_ | refine dm_c lF' lN' dq702 dr702 dp702 ?_ | refine dm_c lF' lN' dq703 dr703 dp703 ?_ | refine dm_c lF' lN' dq704 dr704 dp704 ?_); intro D' h' k' t1' t2' F' N' l1; clear lF' lN'; (try k_lt l1)))
theorem gcl_1 : ∀ {w : World} {mg mb : Str → Option Value} {d u : Nat} {fr : Option (List Env)} {gd : Option (List Code)} {s : Shared} {Q E : Value → Shared → Prop} {tm : Tok}
    (X : (Mine.hd.heap_39 w.params).In s.heap) (T : TopRead Mine.hd.view_39 LO mg mb s.heap)
    (hd : d + 8 < recursionLimit) (hu : u + 60 < cLine)
    (ret : ∀ h' tk' t', Ext s.heap h' → Q (.str (Str.ofString "A") t') { s with heap := h', toks := tk' }),
    wpAny (model PySem.Challenge.rw_ez0208_01.row.prog w) ⟨none, d, fr, gd, u⟩ (call (.ref 56) [.int 1 tm] []) Q E s := by
  k_fill
  intro w mg mb d u fr gd s Q E tm X T hd hu ret
  k_dflt (refine' enterK (args := ⟨[.int 1 tm], []⟩) X T ?k1 ?k2 ?k3 ?k4 ?k5 ?_ ?c1 ?c2 ?c3 ?c4; (case k1 => k_is); (case k2 => k_is); (case k3 => (dsimp only; omega)); (case k4 => exact BindsTo.of_eq rfl); (case k5 => exact locs rfl); (case c1 => rfl); (case c2 => rfl); (case c3 => rfl); (case c4 => decide); k_whole)
  intro L' h' F' N'
  (try dsimp only)
  (try k_fold)
  k_steps
  all_goals (
    (with_reducible rename Fr _ _ _ _ => F9)
    (try dsimp only [qk])
    (try dsimp only)
    first | refine ret _ _ _ (fun b o e => F9.keep b o e) | w_report)
theorem gcl_2 : ∀ {w : World} {mg mb : Str → Option Value} {d u : Nat} {fr : Option (List Env)} {gd : Option (List Code)} {s : Shared} {Q E : Value → Shared → Prop} {tm : Tok}
    (X : (Mine.hd.heap_39 w.params).In s.heap) (T : TopRead Mine.hd.view_39 LO mg mb s.heap)
    (hd : d + 8 < recursionLimit) (hu : u + 60 < cLine)
    (ret : ∀ h' tk' t', Ext s.heap h' → Q (.str (Str.ofString "B") t') { s with heap := h', toks := tk' }),
    wpAny (model PySem.Challenge.rw_ez0208_01.row.prog w) ⟨none, d, fr, gd, u⟩ (call (.ref 56) [.int 2 tm] []) Q E s := by
  k_fill
  intro w mg mb d u fr gd s Q E tm X T hd hu ret
  k_dflt (refine' enterK (args := ⟨[.int 2 tm], []⟩) X T ?k1 ?k2 ?k3 ?k4 ?k5 ?_ ?c1 ?c2 ?c3 ?c4; (case k1 => k_is); (case k2 => k_is); (case k3 => (dsimp only; omega)); (case k4 => exact BindsTo.of_eq rfl); (case k5 => exact locs rfl); (case c1 => rfl); (case c2 => rfl); (case c3 => rfl); (case c4 => decide); k_whole)
  intro L' h' F' N'
  (try dsimp only)
  (try k_fold)
  k_steps
  all_goals (
    (with_reducible rename Fr _ _ _ _ => F9)
    (try dsimp only [qk])
    (try dsimp only)
    first | refine ret _ _ _ (fun b o e => F9.keep b o e) | w_report)
theorem gcl_3 : ∀ {w : World} {mg mb : Str → Option Value} {d u : Nat} {fr : Option (List Env)} {gd : Option (List Code)} {s : Shared} {Q E : Value → Shared → Prop} {tm : Tok}
    (X : (Mine.hd.heap_39 w.params).In s.heap) (T : TopRead Mine.hd.view_39 LO mg mb s.heap)
    (hd : d + 8 < recursionLimit) (hu : u + 60 < cLine)
    (ret : ∀ h' tk' t', Ext s.heap h' → Q (.str (Str.ofString "C") t') { s with heap := h', toks := tk' }),
    wpAny (model PySem.Challenge.rw_ez0208_01.row.prog w) ⟨none, d, fr, gd, u⟩ (call (.ref 56) [.int 3 tm] []) Q E s := by
  k_fill
  intro w mg mb d u fr gd s Q E tm X T hd hu ret
  k_dflt (refine' enterK (args := ⟨[.int 3 tm], []⟩) X T ?k1 ?k2 ?k3 ?k4 ?k5 ?_ ?c1 ?c2 ?c3 ?c4; (case k1 => k_is); (case k2 => k_is); (case k3 => (dsimp only; omega)); (case k4 => exact BindsTo.of_eq rfl); (case k5 => exact locs rfl); (case c1 => rfl); (case c2 => rfl); (case c3 => rfl); (case c4 => decide); k_whole)
  intro L' h' F' N'
  (try dsimp only)
  (try k_fold)
  k_steps
  all_goals (
    (with_reducible rename Fr _ _ _ _ => F9)
    (try dsimp only [qk])
    (try dsimp only)
    first | refine ret _ _ _ (fun b o e => F9.keep b o e) | w_report)
theorem gcl_4 : ∀ {w : World} {mg mb : Str → Option Value} {d u : Nat} {fr : Option (List Env)} {gd : Option (List Code)} {s : Shared} {Q E : Value → Shared → Prop} {tm : Tok}
    (X : (Mine.hd.heap_39 w.params).In s.heap) (T : TopRead Mine.hd.view_39 LO mg mb s.heap)
    (hd : d + 8 < recursionLimit) (hu : u + 60 < cLine)
    (ret : ∀ h' tk' t', Ext s.heap h' → Q (.str (Str.ofString "D") t') { s with heap := h', toks := tk' }),
    wpAny (model PySem.Challenge.rw_ez0208_01.row.prog w) ⟨none, d, fr, gd, u⟩ (call (.ref 56) [.int 4 tm] []) Q E s := by
  k_fill
  intro w mg mb d u fr gd s Q E tm X T hd hu ret
  k_dflt (refine' enterK (args := ⟨[.int 4 tm], []⟩) X T ?k1 ?k2 ?k3 ?k4 ?k5 ?_ ?c1 ?c2 ?c3 ?c4; (case k1 => k_is); (case k2 => k_is); (case k3 => (dsimp only; omega)); (case k4 => exact BindsTo.of_eq rfl); (case k5 => exact locs rfl); (case c1 => rfl); (case c2 => rfl); (case c3 => rfl); (case c4 => decide); k_whole)
  intro L' h' F' N'
  (try dsimp only)
  (try k_fold)
  k_steps
  all_goals (
    (with_reducible rename Fr _ _ _ _ => F9)
    (try dsimp only [qk])
    (try dsimp only)
    first | refine ret _ _ _ (fun b o e => F9.keep b o e) | w_report)
theorem gcl_26 : ∀ {w : World} {mg mb : Str → Option Value} {d u : Nat} {fr : Option (List Env)} {gd : Option (List Code)} {s : Shared} {Q E : Value → Shared → Prop} {tm : Tok}
    (X : (Mine.hd.heap_39 w.params).In s.heap) (T : TopRead Mine.hd.view_39 LO mg mb s.heap)
    (hd : d + 8 < recursionLimit) (hu : u + 60 < cLine)
    (ret : ∀ h' tk' t', Ext s.heap h' → Q (.str (Str.ofString "Z") t') { s with heap := h', toks := tk' }),
    wpAny (model PySem.Challenge.rw_ez0208_01.row.prog w) ⟨none, d, fr, gd, u⟩ (call (.ref 56) [.int 26 tm] []) Q E s := by
  k_fill
  intro w mg mb d u fr gd s Q E tm X T hd hu ret
  k_dflt (refine' enterK (args := ⟨[.int 26 tm], []⟩) X T ?k1 ?k2 ?k3 ?k4 ?k5 ?_ ?c1 ?c2 ?c3 ?c4; (case k1 => k_is); (case k2 => k_is); (case k3 => (dsimp only; omega)); (case k4 => exact BindsTo.of_eq rfl); (case k5 => exact locs rfl); (case c1 => rfl); (case c2 => rfl); (case c3 => rfl); (case c4 => decide); k_whole)
  intro L' h' F' N'
  (try dsimp only)
  (try k_fold)
  k_steps
  all_goals (
    (with_reducible rename Fr _ _ _ _ => F9)
    (try dsimp only [qk])
    (try dsimp only)
    first | refine ret _ _ _ (fun b o e => F9.keep b o e) | w_report)
theorem gcl_27 : ∀ {w : World} {mg mb : Str → Option Value} {d u : Nat} {fr : Option (List Env)} {gd : Option (List Code)} {s : Shared} {Q E : Value → Shared → Prop} {tm : Tok}
    (X : (Mine.hd.heap_39 w.params).In s.heap) (T : TopRead Mine.hd.view_39 LO mg mb s.heap)
    (hd : d + 8 < recursionLimit) (hu : u + 60 < cLine)
    (ret : ∀ h' tk' t', Ext s.heap h' → Q (.str (Str.ofString "AA") t') { s with heap := h', toks := tk' }),
    wpAny (model PySem.Challenge.rw_ez0208_01.row.prog w) ⟨none, d, fr, gd, u⟩ (call (.ref 56) [.int 27 tm] []) Q E s := by
  k_fill
  intro w mg mb d u fr gd s Q E tm X T hd hu ret
  k_dflt (refine' enterK (args := ⟨[.int 27 tm], []⟩) X T ?k1 ?k2 ?k3 ?k4 ?k5 ?_ ?c1 ?c2 ?c3 ?c4; (case k1 => k_is); (case k2 => k_is); (case k3 => (dsimp only; omega)); (case k4 => exact BindsTo.of_eq rfl); (case k5 => exact locs rfl); (case c1 => rfl); (case c2 => rfl); (case c3 => rfl); (case c4 => decide); k_whole)
  intro L' h' F' N'
  (try dsimp only)
  (try k_fold)
  k_steps
  all_goals (
    (with_reducible rename Fr _ _ _ _ => F9)
    (try dsimp only [qk])
    (try dsimp only)
    first | refine ret _ _ _ (fun b o e => F9.keep b o e) | w_report)
theorem gcl_28 : ∀ {w : World} {mg mb : Str → Option Value} {d u : Nat} {fr : Option (List Env)} {gd : Option (List Code)} {s : Shared} {Q E : Value → Shared → Prop} {tm : Tok}
    (X : (Mine.hd.heap_39 w.params).In s.heap) (T : TopRead Mine.hd.view_39 LO mg mb s.heap)
    (hd : d + 8 < recursionLimit) (hu : u + 60 < cLine)
    (ret : ∀ h' tk' t', Ext s.heap h' → Q (.str (Str.ofString "AB") t') { s with heap := h', toks := tk' }),
    wpAny (model PySem.Challenge.rw_ez0208_01.row.prog w) ⟨none, d, fr, gd, u⟩ (call (.ref 56) [.int 28 tm] []) Q E s := by
  k_fill
  intro w mg mb d u fr gd s Q E tm X T hd hu ret
  k_dflt (refine' enterK (args := ⟨[.int 28 tm], []⟩) X T ?k1 ?k2 ?k3 ?k4 ?k5 ?_ ?c1 ?c2 ?c3 ?c4; (case k1 => k_is); (case k2 => k_is); (case k3 => (dsimp only; omega)); (case k4 => exact BindsTo.of_eq rfl); (case k5 => exact locs rfl); (case c1 => rfl); (case c2 => rfl); (case c3 => rfl); (case c4 => decide); k_whole)
  intro L' h' F' N'
  (try dsimp only)
  (try k_fold)
  k_steps
  all_goals (
    (with_reducible rename Fr _ _ _ _ => F9)
    (try dsimp only [qk])
    (try dsimp only)
    first | refine ret _ _ _ (fun b o e => F9.keep b o e) | w_report)
theorem gcl_29 : ∀ {w : World} {mg mb : Str → Option Value} {d u : Nat} {fr : Option (List Env)} {gd : Option (List Code)} {s : Shared} {Q E : Value → Shared → Prop} {tm : Tok}
    (X : (Mine.hd.heap_39 w.params).In s.heap) (T : TopRead Mine.hd.view_39 LO mg mb s.heap)
    (hd : d + 8 < recursionLimit) (hu : u + 60 < cLine)
    (ret : ∀ h' tk' t', Ext s.heap h' → Q (.str (Str.ofString "AC") t') { s with heap := h', toks := tk' }),
    wpAny (model PySem.Challenge.rw_ez0208_01.row.prog w) ⟨none, d, fr, gd, u⟩ (call (.ref 56) [.int 29 tm] []) Q E s := by
  k_fill
  intro w mg mb d u fr gd s Q E tm X T hd hu ret
  k_dflt (refine' enterK (args := ⟨[.int 29 tm], []⟩) X T ?k1 ?k2 ?k3 ?k4 ?k5 ?_ ?c1 ?c2 ?c3 ?c4; (case k1 => k_is); (case k2 => k_is); (case k3 => (dsimp only; omega)); (case k4 => exact BindsTo.of_eq rfl); (case k5 => exact locs rfl); (case c1 => rfl); (case c2 => rfl); (case c3 => rfl); (case c4 => decide); k_whole)
  intro L' h' F' N'
  (try dsimp only)
  (try k_fold)
  k_steps
  all_goals (
    (with_reducible rename Fr _ _ _ _ => F9)
    (try dsimp only [qk])
    (try dsimp only)
    first | refine ret _ _ _ (fun b o e => F9.keep b o e) | w_report)
theorem gcl_701 : ∀ {w : World} {mg mb : Str → Option Value} {d u : Nat} {fr : Option (List Env)} {gd : Option (List Code)} {s : Shared} {Q E : Value → Shared → Prop} {tm : Tok}
    (X : (Mine.hd.heap_39 w.params).In s.heap) (T : TopRead Mine.hd.view_39 LO mg mb s.heap)
    (hd : d + 8 < recursionLimit) (hu : u + 60 < cLine)
    (ret : ∀ h' tk' t', Ext s.heap h' → Q (.str (Str.ofString "ZY") t') { s with heap := h', toks := tk' }),
    wpAny (model PySem.Challenge.rw_ez0208_01.row.prog w) ⟨none, d, fr, gd, u⟩ (call (.ref 56) [.int 701 tm] []) Q E s := by
  k_fill
  intro w mg mb d u fr gd s Q E tm X T hd hu ret
  k_dflt (refine' enterK (args := ⟨[.int 701 tm], []⟩) X T ?k1 ?k2 ?k3 ?k4 ?k5 ?_ ?c1 ?c2 ?c3 ?c4; (case k1 => k_is); (case k2 => k_is); (case k3 => (dsimp only; omega)); (case k4 => exact BindsTo.of_eq rfl); (case k5 => exact locs rfl); (case c1 => rfl); (case c2 => rfl); (case c3 => rfl); (case c4 => decide); k_whole)
  intro L' h' F' N'
  (try dsimp only)
  (try k_fold)
  k_steps
  all_goals (
    (with_reducible rename Fr _ _ _ _ => F9)
    (try dsimp only [qk])
    (try dsimp only)
    first | refine ret _ _ _ (fun b o e => F9.keep b o e) | w_report)
theorem gcl_702 : ∀ {w : World} {mg mb : Str → Option Value} {d u : Nat} {fr : Option (List Env)} {gd : Option (List Code)} {s : Shared} {Q E : Value → Shared → Prop} {tm : Tok}
    (X : (Mine.hd.heap_39 w.params).In s.heap) (T : TopRead Mine.hd.view_39 LO mg mb s.heap)
    (hd : d + 8 < recursionLimit) (hu : u + 60 < cLine)
    (ret : ∀ h' tk' t', Ext s.heap h' → Q (.str (Str.ofString "ZZ") t') { s with heap := h', toks := tk' }),
    wpAny (model PySem.Challenge.rw_ez0208_01.row.prog w) ⟨none, d, fr, gd, u⟩ (call (.ref 56) [.int 702 tm] []) Q E s := by
  k_fill
  intro w mg mb d u fr gd s Q E tm X T hd hu ret
  k_dflt (refine' enterK (args := ⟨[.int 702 tm], []⟩) X T ?k1 ?k2 ?k3 ?k4 ?k5 ?_ ?c1 ?c2 ?c3 ?c4; (case k1 => k_is); (case k2 => k_is); (case k3 => (dsimp only; omega)); (case k4 => exact BindsTo.of_eq rfl); (case k5 => exact locs rfl); (case c1 => rfl); (case c2 => rfl); (case c3 => rfl); (case c4 => decide); k_whole)
  intro L' h' F' N'
  (try dsimp only)
  (try k_fold)
  k_steps
  all_goals (
    (with_reducible rename Fr _ _ _ _ => F9)
    (try dsimp only [qk])
    (try dsimp only)
    first | refine ret _ _ _ (fun b o e => F9.keep b o e) | w_report)
theorem gcl_703 : ∀ {w : World} {mg mb : Str → Option Value} {d u : Nat} {fr : Option (List Env)} {gd : Option (List Code)} {s : Shared} {Q E : Value → Shared → Prop} {tm : Tok}
    (X : (Mine.hd.heap_39 w.params).In s.heap) (T : TopRead Mine.hd.view_39 LO mg mb s.heap)
    (hd : d + 8 < recursionLimit) (hu : u + 60 < cLine)
    (ret : ∀ h' tk' t', Ext s.heap h' → Q (.str (Str.ofString "AAA") t') { s with heap := h', toks := tk' }),
    wpAny (model PySem.Challenge.rw_ez0208_01.row.prog w) ⟨none, d, fr, gd, u⟩ (call (.ref 56) [.int 703 tm] []) Q E s := by
  k_fill
  intro w mg mb d u fr gd s Q E tm X T hd hu ret
  k_dflt (refine' enterK (args := ⟨[.int 703 tm], []⟩) X T ?k1 ?k2 ?k3 ?k4 ?k5 ?_ ?c1 ?c2 ?c3 ?c4; (case k1 => k_is); (case k2 => k_is); (case k3 => (dsimp only; omega)); (case k4 => exact BindsTo.of_eq rfl); (case k5 => exact locs rfl); (case c1 => rfl); (case c2 => rfl); (case c3 => rfl); (case c4 => decide); k_whole)
  intro L' h' F' N'
  (try dsimp only)
  (try k_fold)
  k_steps
  all_goals (
    (with_reducible rename Fr _ _ _ _ => F9)
    (try dsimp only [qk])
    (try dsimp only)
    first | refine ret _ _ _ (fun b o e => F9.keep b o e) | w_report)
theorem gcl_704 : ∀ {w : World} {mg mb : Str → Option Value} {d u : Nat} {fr : Option (List Env)} {gd : Option (List Code)} {s : Shared} {Q E : Value → Shared → Prop} {tm : Tok}
    (X : (Mine.hd.heap_39 w.params).In s.heap) (T : TopRead Mine.hd.view_39 LO mg mb s.heap)
    (hd : d + 8 < recursionLimit) (hu : u + 60 < cLine)
    (ret : ∀ h' tk' t', Ext s.heap h' → Q (.str (Str.ofString "AAB") t') { s with heap := h', toks := tk' }),
    wpAny (model PySem.Challenge.rw_ez0208_01.row.prog w) ⟨none, d, fr, gd, u⟩ (call (.ref 56) [.int 704 tm] []) Q E s := by
  k_fill
  intro w mg mb d u fr gd s Q E tm X T hd hu ret
  k_dflt (refine' enterK (args := ⟨[.int 704 tm], []⟩) X T ?k1 ?k2 ?k3 ?k4 ?k5 ?_ ?c1 ?c2 ?c3 ?c4; (case k1 => k_is); (case k2 => k_is); (case k3 => (dsimp only; omega)); (case k4 => exact BindsTo.of_eq rfl); (case k5 => exact locs rfl); (case c1 => rfl); (case c2 => rfl); (case c3 => rfl); (case c4 => decide); k_whole)
  intro L' h' F' N'
  (try dsimp only)
  (try k_fold)
  k_steps
  all_goals (
    (with_reducible rename Fr _ _ _ _ => F9)
    (try dsimp only [qk])
    (try dsimp only)
    first | refine ret _ _ _ (fun b o e => F9.keep b o e) | w_report)
theorem gcl_c {w : World} {mg mb : Str → Option Value} {d u : Nat} {fr : Option (List Env)} {gd : Option (List Code)} {s : Shared} {Q E : Value → Shared → Prop} {tm : Tok} {c : Int}
    (X : (Mine.hd.heap_39 w.params).In s.heap) (T : TopRead Mine.hd.view_39 LO mg mb s.heap)
    (hd : d + 8 < recursionLimit) (hu : u + 60 < cLine) (hc : IsC c)
    (ret : ∀ h' tk' t', Ext s.heap h' → Q (.str (upS c) t') { s with heap := h', toks := tk' }) :
    wpAny (model PySem.Challenge.rw_ez0208_01.row.prog w) ⟨none, d, fr, gd, u⟩ (call (.ref 56) [.int c tm] []) Q E s := by
  rcases hc with rfl | rfl | rfl | rfl | rfl | rfl | rfl | rfl | rfl | rfl | rfl | rfl
  · exact gcl_1 X T hd hu ret
  · exact gcl_2 X T hd hu ret
  · exact gcl_3 X T hd hu ret
  · exact gcl_4 X T hd hu ret
  · exact gcl_26 X T hd hu ret
  · exact gcl_27 X T hd hu ret
  · exact gcl_28 X T hd hu ret
  · exact gcl_29 X T hd hu ret
  · exact gcl_701 X T hd hu ret
  · exact gcl_702 X T hd hu ret
  · exact gcl_703 X T hd hu ret
  · exact gcl_704 X T hd hu ret
end Mine
end
section
local macro_rules | `(tactic| walk_at "mine pad 0") => `(tactic| skip)
local macro_rules | `(tactic| walk_at "mine pad 1") => `(tactic| skip)
local macro_rules | `(tactic| walk_at "mine pad 2") => `(tactic| skip)
local macro_rules | `(tactic| walk_at "mine pad 3") => `(tactic| skip)
local macro_rules | `(tactic| walk_at "mine pad 4") => `(tactic| skip)
local macro_rules | `(tactic| walk_at "mine pad 5") => `(tactic| skip)
local macro_rules | `(tactic| walk_at "mine pad 6") => `(tactic| skip)
local macro_rules | `(tactic| walk_at "mine pad 7") => `(tactic| skip)
local macro_rules | `(tactic| walk_at "mine pad 8") => `(tactic| skip)
local macro_rules | `(tactic| walk_at "mine pad 9") => `(tactic| skip)
local macro_rules | `(tactic| walk_at "mine pad 10") => `(tactic| skip)
local macro_rules | `(tactic| walk_at "mine pad 11") => `(tactic| skip)
local macro_rules | `(tactic| walk_at "mine pad 12") => `(tactic| skip)
local macro_rules | `(tactic| walk_at "mine pad 13") => `(tactic| skip)
open PySem PySem.W PySem.Calls PySem.Spec PyProof.Rows
set_option Elab.async false
set_option maxRecDepth 100000
set_option maxHeartbeats 4000000
set_option linter.unusedVariables false
namespace Mine
/-- the law's statements and its scope, read out of the program -/
def lawSt : Option (List Stmt × Scope) := PySem.Challenge.rw_ez0208_01.row.prog.main.body.findSome? fun st => match st with
  | .FunctionDef name _ body _ _ _ scope _ _ _ => if name == Str.ofString "law" then some (body, scope) else none
  | _ => none
def lawBody : List Stmt := match lawSt with | some p => p.1 | none => []
def lawScope : Scope := match lawSt with | some p => p.2 | none => default
theorem execs_append {env : Env} : ∀ (l1 l2 : List Stmt), execs (l1 ++ l2) env = (execs l1 env >>= fun f => match f with | .next => execs l2 env | f => pure f)
  | [], l2 => rfl
  | st :: l1, l2 => by
    have ih := execs_append (env := env) l1 l2
    rw [List.cons_append, PySem.execs_cons, PySem.execs_cons, bind_assoc]
    congr 1
    funext f
    cases f <;> first | exact ih | rfl
theorem execs_cut {M : Model} {A : Around} {E : Value → Shared → Prop} {s : Shared} {env : Env} {P : Shared → Prop} {Q : Flow → Shared → Prop} (n : Nat) (l : List Stmt) (h : wpAny M A (execs (l.take n) env) (fun f s' => f = .next ∧ P s') E s) (k : ∀ s', P s' → wpAny M A (execs (l.drop n) env) Q E s') :
    wpAny M A (execs l env) Q E s := by
  have e : execs l env = execs (l.take n ++ l.drop n) env := by rw [List.take_append_drop]
  rw [e, execs_append]
  refine wpAny_bind (wpAny_mono h (fun f s' x => ?_) fun _ _ x => x)
  obtain ⟨rfl, x⟩ := x
  exact k s' x
theorem fillK6 : PySem.Challenge.rw_ez0208_01 = PySem.Challenge.rw_ez0208_01 → (∀ P, Mine.hd.heap_39 P = Mine.hd.heap_39 P) := by k_fill; intros; rfl
local macro_rules | `(tactic| walk_at "execs nil") => `(tactic| (k_here; (refine gen_pos (by omega) ?_); intro tk' tp'; (with_reducible refine wpAny_execs_nil ?_); try dsimp only))
theorem law_1 : ∀ {w : World} {mg mb : Str → Option Value} {d u : Nat} {fr : Option (List Env)} {gd : Option (List Code)} {s : Shared} {Q : Flow → Shared → Prop} {E : Value → Shared → Prop} {h₀ : Heap} {L fa sc : Addr} {cd : Value} {vs : List Value} {ns : List Int} {c1 c2 c3 c4 : Obj}
    (X : (Mine.hd.heap_39 w.params).In h₀) (T : TopRead Mine.hd.view_39 LO mg mb h₀) (hd : d + 100 < recursionLimit) (hu : u + 1000 < cLine)
    (F : Fr h₀ L s.heap (bindL (envOfC (Str.ofString "law") lawScope L fa cd).kindOf [(Str.ofString "script", .ref sc)] fun _ => none)) (N : News h₀ L s.heap [(L + 1 + 1 + 1 + 1, c4), (L + 1 + 1 + 1, c3), (L + 1 + 1, c2), (L + 1, c1)])
    (d1 : c1.data = .cell none) (d2 : c2.data = .cell none) (d3 : c3.data = .cell none) (d4 : c4.data = .cell none) (hs : h₀.IsList sc vs.toArray) (hi : IntsAre vs ns) (hn : ns.length ≤ 63)
    (ret : ∀ h' tk st sl ws t1 t2 n c1', IntsAre ws (ns.take 40) → @LT.lt Nat _ (L + 1 + 1 + 1 + 1) sl → @LT.lt Nat _ sl st → c1'.data = .cell (some (.ref st)) →
      Fr h₀ L h' (bindL (envOfC (Str.ofString "law") lawScope L fa cd).kindOf [(Str.ofString "script", .ref sc)] fun _ => none) →
      News h₀ L h' [(st, stObj sl 0 17 t1 t2 n), (sl, listOf ws.toArray 0), (L + 1 + 1 + 1 + 1, c4), (L + 1 + 1 + 1, c3), (L + 1 + 1, c2), (L + 1, c1')] → Q .next { s with heap := h', toks := tk }),
    wpAny (model PySem.Challenge.rw_ez0208_01.row.prog w) ⟨none, d, fr, gd, u⟩ (execs (lawBody.take 1) (envOfC (Str.ofString "law") lawScope L fa cd)) Q E s := by
  k_fill
  intro w mg mb d u fr gd s Q E h₀ L fa sc cd vs ns c1 c2 c3 c4 X T hd hu F N d1 d2 d3 d4 hs hi hn ret
  have eS : lawScope = lawScope := rfl
  conv at eS => rhs; whnf
  rw [eS] at F ret ⊢
  conv => arg 3; arg 1; whnf
  (try simp only [List.take_succ_cons, List.take_zero])
  clear eS
  k_steps
  all_goals (
    (with_reducible rename Fr _ _ _ _ => F9)
    (with_reducible rename News _ _ _ _ => N9)
    (with_reducible rename IntsAre _ (List.take _ _) => I9)
    (rename_i l2 st h4 l3 h5 c5 d5)
    exact ret _ _ st _ _ _ _ _ _ I9 l2.1 l3.1 d5 F9 N9)
end Mine
end
section
open PySem PySem.W PySem.Calls PySem.Spec PyProof.Rows
set_option Elab.async false
set_option maxRecDepth 100000
set_option maxHeartbeats 4000000
set_option linter.unusedVariables false
namespace Mine
theorem fillK7 : PySem.Challenge.rw_ez0208_01 = PySem.Challenge.rw_ez0208_01 → (∀ P, Mine.hd.heap_39 P = Mine.hd.heap_39 P) := by k_fill; intros; rfl
section
variable {prog : Program} {w : World} {A : Around} {E : Value → Shared → Prop} {s : Shared} {h₀ : Heap} {L : Addr} {m : Str → Option Value} {news : List (Addr × Obj)}
theorem sub3 {value slice : PySem.Expr} {l : Addr} {k : Int} {t1 t2 t3 u : Tok} {Q : Value → Shared → Prop} (N : News h₀ L s.heap news) (hm : (l, listOf #[.int 1 t1, .int 26 t2, .int 701 t3] 0) ∈ news) (h0 : 0 ≤ k) (h1 : k < 3)
    (h : ∀ v t, v = 1 ∨ v = 26 ∨ v = 701 → Q (.int v t) s)
    (hs : subscripted slice false (.ref l) (.int k u) = operate [.ref l, .int k u] (getItem (.ref l) (.int k u)) := by with_unfolding_all rfl) :
    wpAny (model prog w) A (subscriptTail value slice (.ref l) (.int k u)) Q E s := by
  refine item_list_intsR (vs := [.int 1 t1, .int 26 t2, .int 701 t3]) (ns := [1, 26, 701]) ⟨_, (N _ hm).1, rfl, _, rfl⟩ ?_ h0 h1 (by omega) (fun t => ?_) hs
  · exact .cons _ _ (.cons _ _ (.cons _ _ .nil))
  · refine h _ t ?_
    have hk : k = 0 ∨ k = 1 ∨ k = 2 := by omega
    rcases hk with rfl | rfl | rfl <;> simp
theorem news_sub {h : Heap} {l l' : List (Addr × Obj)} (N : News h₀ L h l') (x : SubL l l') : News h₀ L h l := fun p hp => N p (x.mem p hp)
theorem isL_of {l : Addr} {ws : List Value} (N : News h₀ L s.heap news) (hm : (l, listOf ws.toArray 0) ∈ news) : s.heap.IsList l ws.toArray := ⟨_, (N _ hm).1, rfl, _, rfl⟩
end
local macro_rules | `(tactic| walk_at "call ref") => `(tactic| ((with_reducible show wpAny _ _ (call (Value.ref 106) [Value.ref _, Value.int _ _] _) _ _ _); (rename Fr _ _ _ _ => lF'); (rename News _ _ _ _ => lN'); k_dflt (refine draw_c (by assumption) (by assumption) lF' lN' (by k_updF) (by (dsimp only [Around.deeper]; omega)) (by (dsimp only [Around.deeper]; omega)) (by assumption) (isL_of lN' (by k_mem)) (by assumption) (by assumption) (by assumption) (by assumption) (by assumption) (by assumption) (by assumption) (by decide) (by decide) ?_); intro h' tk' t' r' i' x' t1' t2' n' F' N' hl' b1 b2 b3 b4 b5 b6; clear lF' lN' hl'; (try dsimp only at N')))
local macro_rules | `(tactic| walk_at "subscriptTail") => `(tactic| ((with_reducible show wpAny _ _ (subscriptTail _ _ (Value.ref _) (Value.int _ _)) _ _ _); k_dflt (refine sub3 (by k_asm) (by k_mem) (by omega) (by omega) ?_); intro v' t' hv'))
local macro_rules | `(tactic| walk_at "execs cons") => `(tactic| (k_here; (refine gen_pos (by omega) ?_); intro tk' tp'; (with_reducible refine wpAny_execs_cons ?_); try dsimp only))
theorem law_2 : ∀ {w : World} {mg mb : Str → Option Value} {d u : Nat} {fr : Option (List Env)} {gd : Option (List Code)} {s : Shared} {Q : Flow → Shared → Prop} {E : Value → Shared → Prop} {h₀ : Heap} {L fa st sl : Addr} {cd : Value} {ws : List Value} {ns : List Int} {c1 c2 c3 c4 : Obj} {t1 t2 : Tok} {n : Nat} {m : Str → Option Value}
    (X : (Mine.hd.heap_39 w.params).In h₀) (T : TopRead Mine.hd.view_39 LO mg mb h₀) (hd : d + 100 < recursionLimit) (hu : u + 1000 < cLine)
    (F : Fr h₀ L s.heap m) (N : News h₀ L s.heap [(st, stObj sl 0 17 t1 t2 n), (sl, listOf ws.toArray 0), (L + 1 + 1 + 1 + 1, c4), (L + 1 + 1 + 1, c3), (L + 1 + 1, c2), (L + 1, c1)])
    (d1 : c1.data = .cell (some (.ref st))) (d2 : c2.data = .cell none) (d3 : c3.data = .cell none) (hst : 133 ≤ st) (hne : sl ≠ st) (hi : IntsAre ws ns) (hn : ns.length ≤ 63)
    (z1 : (0 : Int) ≤ 0) (z2 : (0 : Int) ≤ 63) (z3 : (0 : Int) ≤ 17) (z4 : (17 : Int) < 2147483647) (hc : @LT.lt Nat _ (L + 1 + 1 + 1 + 1) sl) (hc2 : @LT.lt Nat _ sl st)
    (ret : ∀ h' tk i x t1 t2 n k l e f tp c2' c3' tt tk' tb tl, c2'.data = .cell (some (.int l tl)) → (∃ tr, c3'.data = .cell (some (.int (l + e) tr))) →
      Fr h₀ L h' (fun y => if y = Str.ofString "bottom" then some (.int (1 + tp + f) tb) else if y = Str.ofString "top" then some (.int (1 + tp) tt) else if y = Str.ofString "kind" then some (.int k tk') else m y) →
      News h₀ L h' [(st, stObj sl i x t1 t2 n), (sl, listOf ws.toArray 0), (L + 1 + 1 + 1 + 1, c4), (L + 1 + 1 + 1, c3'), (L + 1 + 1, c2'), (L + 1, c1)] → 0 ≤ i → i ≤ 63 → 0 ≤ x → x < 2147483647 → 0 ≤ k → k < 4 → (l = 1 ∨ l = 26 ∨ l = 701) → 0 ≤ tp → tp < 12 → 0 ≤ e → e < 4 → 0 ≤ f → f < 4 → Q .next { s with heap := h', toks := tk }),
    wpAny (model PySem.Challenge.rw_ez0208_01.row.prog w) ⟨none, d, fr, gd, u⟩ (execs ((lawBody.drop 1).take 2) (envOfC (Str.ofString "law") lawScope L fa cd)) Q E s := by
  k_fill
  intro w mg mb d u fr gd s Q E h₀ L fa st sl cd ws ns c1 c2 c3 c4 t1 t2 n m X T hd hu F N d1 d2 d3 hst hne hi hn z1 z2 z3 z4 hc hc2 ret
  have eS : lawScope = lawScope := rfl
  conv at eS => rhs; whnf
  rw [eS]
  conv => arg 3; arg 1; whnf
  (try simp only [List.take_succ_cons, List.take_zero])
  clear eS
  k_steps
  all_goals (
    (with_reducible rename Fr _ _ _ _ => F9)
    (with_reducible rename News _ _ _ _ => N9)
    refine' ret _ _ _ _ _ _ _ _ _ _ _ _ _ _ _ _ _ _ ?c2 ?c3 F9 ?nn ?_ ?_ ?_ ?_ ?_ ?_ ?_ ?_ ?_ ?_ ?_ ?_ ?_
    case nn => exact news_sub N9 (by k_subL)
    case c2 => assumption
    case c3 => exact ⟨_, by assumption⟩
    all_goals first | assumption | omega)
end Mine
end
section
local macro_rules | `(tactic| walk_at "mine pad 0") => `(tactic| skip)
local macro_rules | `(tactic| walk_at "mine pad 1") => `(tactic| skip)
local macro_rules | `(tactic| walk_at "mine pad 2") => `(tactic| skip)
local macro_rules | `(tactic| walk_at "mine pad 3") => `(tactic| skip)
local macro_rules | `(tactic| walk_at "mine pad 4") => `(tactic| skip)
local macro_rules | `(tactic| walk_at "mine pad 5") => `(tactic| skip)
local macro_rules | `(tactic| walk_at "mine pad 6") => `(tactic| skip)
local macro_rules | `(tactic| walk_at "mine pad 7") => `(tactic| skip)
local macro_rules | `(tactic| walk_at "mine pad 8") => `(tactic| skip)
local macro_rules | `(tactic| walk_at "mine pad 9") => `(tactic| skip)
local macro_rules | `(tactic| walk_at "mine pad 10") => `(tactic| skip)
local macro_rules | `(tactic| walk_at "mine pad 11") => `(tactic| skip)
local macro_rules | `(tactic| walk_at "mine pad 12") => `(tactic| skip)
local macro_rules | `(tactic| walk_at "mine pad 13") => `(tactic| skip)
open PySem PySem.W PySem.Calls PySem.Spec PyProof.Rows
set_option Elab.async false
set_option maxRecDepth 100000
set_option maxHeartbeats 4000000
set_option linter.unusedVariables false
namespace Mine
theorem fillK8 : PySem.Challenge.rw_ez0208_01 = PySem.Challenge.rw_ez0208_01 → (∀ P, Mine.hd.heap_39 P = Mine.hd.heap_39 P) := by k_fill; intros; rfl
section
variable {h₀ h h' : Heap} {L st : Addr} {m : Str → Option Value} {news : List (Addr × Obj)} {g : Obj → List (Addr × Obj)} {o o' : Obj}
theorem upd_out (F : Fr h₀ L h m) (N : News h₀ L h news) (U : UpdF st o news g) (hk : ∀ b x, b ≠ st → h.get? b = some x → h'.get? b = some x) (hs : h'.get? st = some o') : Fr h₀ L h' m ∧ News h₀ L h' (g o') := by
  obtain ⟨pre, post, e1, e2, c1, c2⟩ := U.split
  subst e1
  have hm := N _ (List.mem_append_right _ (.head _))
  refine ⟨⟨F.ns.at' fun x e => hk _ _ (fun q => hm.2.1 q.symm) e, fun b x e => hk _ _ (fun q => ?_) (F.keep b x e), F.above⟩, ?_⟩
  · rw [q, hm.2.2] at e; cases e
  · rw [e2]
    intro p hp
    rcases List.mem_append.mp hp with hp | hp
    · have := N p (List.mem_append_left _ hp)
      exact ⟨hk _ _ (c1 p hp) this.1, this.2⟩
    · rcases List.mem_cons.mp hp with rfl | hp
      · exact ⟨hs, hm.2⟩
      · have := N p (List.mem_append_right _ (.tail _ hp))
        exact ⟨hk _ _ (c2 p hp) this.1, this.2⟩
theorem upd_mem (N : News h₀ L h news) (U : UpdF st o news g) : h.get? st = some o := by
  obtain ⟨pre, post, e1, e2, c1, c2⟩ := U.split
  subst e1
  exact (N _ (List.mem_append_right _ (.head _))).1
theorem fr_pin {a : Str} {v : Value} (F : Fr h₀ L h m) (e : m a = some v) : Fr h₀ L h (fun y => if y = a then some v else m y) := by
  have : (fun y => if y = a then some v else m y) = m := by
    funext y
    by_cases hy : y = a
    · rw [if_pos hy, hy, e]
    · rw [if_neg hy]
  rw [this]; exact F
end
section
variable {w : World} {mg mb : Str → Option Value} {d u : Nat} {fr : Option (List Env)} {gd : Option (List Code)} {s : Shared} {Q E : Value → Shared → Prop} {h₀ : Heap} {L st sl : Addr} {m : Str → Option Value} {news : List (Addr × Obj)} {g : Obj → List (Addr × Obj)} {i x c r : Int} {t1 t2 tc tr : Tok} {n : Nat} {ws : List Value} {ns : List Int}
theorem plr (X : (Mine.hd.heap_39 w.params).In h₀) (T : TopRead Mine.hd.view_39 LO mg mb h₀) (F : Fr h₀ L s.heap m) (N : News h₀ L s.heap news) (U : UpdF st (stObj sl i x t1 t2 n) news g)
    (hd : d + 16 < recursionLimit) (hu : u + 200 < cLine) (hst : 133 ≤ st) (hsl : s.heap.IsList sl ws.toArray) (hin : IntsAre ws ns) (hne : sl ≠ st) (hlen : ns.length ≤ 63) (hi0 : 0 ≤ i) (hi1 : i ≤ 63) (hx0 : 0 ≤ x) (hx1 : x < 2147483647) (hc : IsC c) (hr1 : 1 ≤ r) (hr2 : r ≤ 15)
    (ret : ∀ h' tk' t' y i' x' t1' t2' n', Fr h₀ L h' m → News h₀ L h' (g (stObj sl i' x' t1' t2' n')) → 0 ≤ i' → i' ≤ 63 → 0 ≤ x' → x' < 2147483647 → PartLR y c r → y.length ≤ 60 → Q (.str y t') { s with heap := h', toks := tk' }) :
    wpAny (model PySem.Challenge.rw_ez0208_01.row.prog w) ⟨none, d, fr, gd, u⟩ (call (.ref 120) [.ref st, .int c tc, .int r tr] []) Q E s := by
  refine part_lr (ext_in X (fr_ext F)) (ext_read T (fr_ext F)) hd hu hst (upd_mem N U) hsl hin hne hlen hi0 hi1 hx0 hx1 hc (upS_len hc) hr1 hr2 fun h' tk' t' y i' x' t1' t2' n' hk hs b1 b2 b3 b4 p => ?_
  obtain ⟨F', N'⟩ := upd_out F N U hk hs
  refine ret h' tk' t' y i' x' t1' t2' n' F' N' b1 b2 b3 b4 p ?_
  obtain ⟨gg, a, b, hf, _, _, e, _⟩ := half_lr p hc hr1 hr2
  have := hf.len
  show y.cps.size ≤ 60
  rw [e, List.size_toArray]
  omega
theorem pl (X : (Mine.hd.heap_39 w.params).In h₀) (T : TopRead Mine.hd.view_39 LO mg mb h₀) (F : Fr h₀ L s.heap m) (N : News h₀ L s.heap news) (U : UpdF st (stObj sl i x t1 t2 n) news g)
    (hd : d + 16 < recursionLimit) (hu : u + 200 < cLine) (hst : 133 ≤ st) (hsl : s.heap.IsList sl ws.toArray) (hin : IntsAre ws ns) (hne : sl ≠ st) (hlen : ns.length ≤ 63) (hi0 : 0 ≤ i) (hi1 : i ≤ 63) (hx0 : 0 ≤ x) (hx1 : x < 2147483647) (hc : IsC c)
    (ret : ∀ h' tk' t' y i' x' t1' t2' n', Fr h₀ L h' m → News h₀ L h' (g (stObj sl i' x' t1' t2' n')) → 0 ≤ i' → i' ≤ 63 → 0 ≤ x' → x' < 2147483647 → PartL y c → y.length ≤ 60 → Q (.str y t') { s with heap := h', toks := tk' }) :
    wpAny (model PySem.Challenge.rw_ez0208_01.row.prog w) ⟨none, d, fr, gd, u⟩ (call (.ref 120) [.ref st, .int c tc, .none] []) Q E s := by
  refine part_l (ext_in X (fr_ext F)) (ext_read T (fr_ext F)) hd hu hst (upd_mem N U) hsl hin hne hlen hi0 hi1 hx0 hx1 hc (upS_len hc) fun h' tk' t' y i' x' t1' t2' n' hk hs b1 b2 b3 b4 p => ?_
  obtain ⟨F', N'⟩ := upd_out F N U hk hs
  refine ret h' tk' t' y i' x' t1' t2' n' F' N' b1 b2 b3 b4 p ?_
  obtain ⟨gg, a, hf, _, e⟩ := half_l p hc
  have := hf.len
  show y.cps.size ≤ 60
  rw [e, List.size_toArray]
  omega
theorem pr (X : (Mine.hd.heap_39 w.params).In h₀) (T : TopRead Mine.hd.view_39 LO mg mb h₀) (F : Fr h₀ L s.heap m) (N : News h₀ L s.heap news) (U : UpdF st (stObj sl i x t1 t2 n) news g)
    (hd : d + 16 < recursionLimit) (hu : u + 200 < cLine) (hst : 133 ≤ st) (hsl : s.heap.IsList sl ws.toArray) (hin : IntsAre ws ns) (hne : sl ≠ st) (hlen : ns.length ≤ 63) (hi0 : 0 ≤ i) (hi1 : i ≤ 63) (hx0 : 0 ≤ x) (hx1 : x < 2147483647) (hr1 : 1 ≤ r) (hr2 : r ≤ 15)
    (ret : ∀ h' tk' t' y i' x' t1' t2' n', Fr h₀ L h' m → News h₀ L h' (g (stObj sl i' x' t1' t2' n')) → 0 ≤ i' → i' ≤ 63 → 0 ≤ x' → x' < 2147483647 → PartR y r → y.length ≤ 60 → Q (.str y t') { s with heap := h', toks := tk' }) :
    wpAny (model PySem.Challenge.rw_ez0208_01.row.prog w) ⟨none, d, fr, gd, u⟩ (call (.ref 120) [.ref st, .none, .int r tr] []) Q E s := by
  refine part_r (ext_in X (fr_ext F)) (ext_read T (fr_ext F)) hd hu hst (upd_mem N U) hsl hin hne hlen hi0 hi1 hx0 hx1 hr1 hr2 fun h' tk' t' y i' x' t1' t2' n' hk hs b1 b2 b3 b4 p => ?_
  obtain ⟨F', N'⟩ := upd_out F N U hk hs
  refine ret h' tk' t' y i' x' t1' t2' n' F' N' b1 b2 b3 b4 p ?_
  obtain ⟨gg, b, hf, _, e⟩ := half_r p hr1 hr2
  have := hf.len
  show y.cps.size ≤ 60
  rw [e, List.size_toArray]
  omega
end
noncomputable def ivs : List (Option Int) → List Tok → List Value
  | o :: os, t :: ts => iv o t :: ivs os ts
  | _, _ => []
/-- the law's four kinds of texts and what is due -/
inductive Kds (k l tp r b : Int) (x y : Str) : List (Option Int) → Nat → Prop
  | k0 : k = 0 → r = l → b = tp → Told x y (some l) (some tp) (some l) (some tp) 2 → Kds k l tp r b x y [some l, some tp, some l, some tp] 2
  | k1 : k = 1 → Told x y (some l) (some tp) (some r) (some b) 4 → Kds k l tp r b x y [some l, some tp, some r, some b] 4
  | k2 : k = 2 → Told x y (some l) none (some r) none 2 → Kds k l tp r b x y [some l, none, some r, none] 2
  | k3 : k = 3 → Told x y none (some tp) none (some b) 2 → Kds k l tp r b x y [none, some tp, none, some b] 2
local macro_rules | `(tactic| walk_at "call ref") => `(tactic| ((with_reducible show wpAny _ _ (call (Value.ref 120) [Value.ref _, _, _] _) _ _ _); (rename Fr _ _ _ _ => lF'); (rename News _ _ _ _ => lN'); k_dflt (first
  | refine plr (by assumption) (by assumption) lF' lN' (by k_updF) (by first | omega | (dsimp only [Around.deeper]; omega)) (by first | omega | (dsimp only [Around.deeper]; omega)) (by assumption) (isL_of lN' (by k_mem)) (by assumption) (by assumption) (by assumption) (by assumption) (by assumption) (by assumption) (by assumption) (by assumption) (by assumption) (by assumption) ?_
  | refine pl (by assumption) (by assumption) lF' lN' (by k_updF) (by first | omega | (dsimp only [Around.deeper]; omega)) (by first | omega | (dsimp only [Around.deeper]; omega)) (by assumption) (isL_of lN' (by k_mem)) (by assumption) (by assumption) (by assumption) (by assumption) (by assumption) (by assumption) (by assumption) (by assumption) ?_
  | refine pr (by assumption) (by assumption) lF' lN' (by k_updF) (by first | omega | (dsimp only [Around.deeper]; omega)) (by first | omega | (dsimp only [Around.deeper]; omega)) (by assumption) (isL_of lN' (by k_mem)) (by assumption) (by assumption) (by assumption) (by assumption) (by assumption) (by assumption) (by assumption) (by assumption) (by assumption) ?_); intro h' tk' t' y' i' x' t1' t2' n' F' N' b1 b2 b3 b4 hp' hl'; clear lF' lN'; (try dsimp only at N')))
local macro_rules | `(tactic| kt_len) => `(tactic| (with_reducible assumption))
local macro_rules | `(tactic| walk_at "execs cons") => `(tactic| (k_here; (refine gen_pos (by omega) ?_); intro tk' tp'; (with_reducible refine wpAny_execs_cons ?_); try dsimp only))
/-- what holds behind the law's fifth statement -/
def After3 (w : World) (h₀ : Heap) (L st sl : Addr) (ws : List Value) (c1 c2 c4 : Obj) (s : Shared) (Q : Flow → Shared → Prop) (k l tp : Int) : Prop :=
  ∀ {h' : Heap} {tk : Nat} {i x : Int} {t1 t2 : Tok} {n : Nat} {r b : Int} {tx : Tok} {y : Str} {os : List (Option Int)} {q : Nat} {c3' : Obj} {tb tt tk0 : Tok} {D : Addr} {t5 t6 t7 t8 : Tok} {txt : Str} {m' : Str → Option Value},
    (∃ tr, c3'.data = .cell (some (.int r tr))) → @LT.lt Nat _ st D → Fr h₀ L h' m' → m' (Str.ofString "due") = some (.ref D) → m' (Str.ofString "text") = some (.str txt tx) → m' (Str.ofString "bottom") = some (.int b tb) → m' (Str.ofString "top") = some (.int tp tt) → m' (Str.ofString "kind") = some (.int k tk0) →
      News h₀ L h' [(D, tupObj (ivs os [t5, t6, t7, t8])), (st, stObj sl i x t1 t2 n), (sl, listOf ws.toArray 0), (L + 1 + 1 + 1 + 1, c4), (L + 1 + 1 + 1, c3'), (L + 1 + 1, c2), (L + 1, c1)] →
      0 ≤ i → i ≤ 63 → 0 ≤ x → x < 2147483647 → IsC r → 1 ≤ b → b ≤ 15 → l ≤ r → r < l + 4 → tp ≤ b → b < tp + 4 → Kds k l tp r b txt y os q → Q .next { s with heap := h', toks := tk }
theorem law_30 : ∀ {w : World} {mg mb : Str → Option Value} {d u : Nat} {fr : Option (List Env)} {gd : Option (List Code)} {s : Shared} {Q : Flow → Shared → Prop} {E : Value → Shared → Prop} {h₀ : Heap} {L fa st sl : Addr} {cd : Value} {ws : List Value} {ns : List Int} {c1 c2 c3 c4 : Obj} {t1 t2 tk0 tt tb tl tr : Tok} {n : Nat} {m : Str → Option Value} {i x l tp r b : Int}
    (X : (Mine.hd.heap_39 w.params).In h₀) (T : TopRead Mine.hd.view_39 LO mg mb h₀) (hd : d + 100 < recursionLimit) (hu : u + 1000 < cLine)
    (F : Fr h₀ L s.heap (fun y => if y = Str.ofString "bottom" then some (.int b tb) else if y = Str.ofString "top" then some (.int tp tt) else if y = Str.ofString "kind" then some (.int 0 tk0) else m y)) (N : News h₀ L s.heap [(st, stObj sl i x t1 t2 n), (sl, listOf ws.toArray 0), (L + 1 + 1 + 1 + 1, c4), (L + 1 + 1 + 1, c3), (L + 1 + 1, c2), (L + 1, c1)])
    (d1 : c1.data = .cell (some (.ref st))) (d2 : c2.data = .cell (some (.int l tl))) (d3 : c3.data = .cell (some (.int r tr))) (hst : 133 ≤ st) (hne : sl ≠ st) (hi : IntsAre ws ns) (hn : ns.length ≤ 63)
    (i1 : 0 ≤ i) (i2 : i ≤ 63) (i3 : 0 ≤ x) (i4 : x < 2147483647) (hcl : IsC l) (hcr : IsC r) (hb1 : 1 ≤ tp) (hb2 : tp ≤ 15) (hb3 : 1 ≤ b) (hb4 : b ≤ 15) (q1 : l ≤ r) (q2 : r < l + 4) (q3 : tp ≤ b) (q4 : b < tp + 4) (hc : @LT.lt Nat _ (L + 1 + 1 + 1 + 1) sl) (hc2 : @LT.lt Nat _ sl st)
    (ret : After3 w h₀ L st sl ws c1 c2 c4 s Q 0 l tp),
    wpAny (model PySem.Challenge.rw_ez0208_01.row.prog w) ⟨none, d, fr, gd, u⟩ (execs ((lawBody.drop 3).take 2) (envOfC (Str.ofString "law") lawScope L fa cd)) Q E s := by
  k_fill
  intro w mg mb d u fr gd s Q E h₀ L fa st sl cd ws ns c1 c2 c3 c4 t1 t2 tk0 tt tb tl tr n m i x l tp r b X T hd hu F N d1 d2 d3 hst hne hi hn i1 i2 i3 i4 hcl hcr hb1 hb2 hb3 hb4 q1 q2 q3 q4 hc hc2 ret
  have eS : lawScope = lawScope := rfl
  conv at eS => rhs; whnf
  rw [eS]
  conv => arg 3; arg 1; whnf
  (try simp only [List.take_succ_cons, List.take_zero])
  clear eS
  k_steps
  all_goals (
    (with_reducible rename Fr _ _ _ _ => F9)
    (with_reducible rename News _ _ _ _ => N9)
    with_reducible rename PartLR _ l tp => p1; obtain ⟨y9, T9⟩ := told_one p1 hcl hb1 hb2
    refine' ret (t1 := _) (y := y9) (r := l) (b := tp) (os := [some l, some tp, some l, some tp]) (t5 := tl) (t6 := tt) (t7 := tl) (t8 := tt) ?c3 ?lt F9 rfl rfl rfl rfl rfl ?nn ?_ ?_ ?_ ?_ hcl hb1 hb2 ?_ ?_ ?_ ?_ (.k0 rfl rfl rfl T9)
    case nn => exact news_sub N9 (by k_subL)
    case c3 => exact ⟨_, by assumption⟩
    case lt => (with_reducible rename _ ∧ _ => l9); first | exact l9.1 | exact l9.2.1 | exact l9.2.2.1 | exact l9.2.2.2.1 | exact l9.2.2.2.2.1
    all_goals first | assumption | omega)
theorem law_31 : ∀ {w : World} {mg mb : Str → Option Value} {d u : Nat} {fr : Option (List Env)} {gd : Option (List Code)} {s : Shared} {Q : Flow → Shared → Prop} {E : Value → Shared → Prop} {h₀ : Heap} {L fa st sl : Addr} {cd : Value} {ws : List Value} {ns : List Int} {c1 c2 c3 c4 : Obj} {t1 t2 tk0 tt tb tl tr : Tok} {n : Nat} {m : Str → Option Value} {i x l tp r b : Int}
    (X : (Mine.hd.heap_39 w.params).In h₀) (T : TopRead Mine.hd.view_39 LO mg mb h₀) (hd : d + 100 < recursionLimit) (hu : u + 1000 < cLine)
    (F : Fr h₀ L s.heap (fun y => if y = Str.ofString "bottom" then some (.int b tb) else if y = Str.ofString "top" then some (.int tp tt) else if y = Str.ofString "kind" then some (.int 1 tk0) else m y)) (N : News h₀ L s.heap [(st, stObj sl i x t1 t2 n), (sl, listOf ws.toArray 0), (L + 1 + 1 + 1 + 1, c4), (L + 1 + 1 + 1, c3), (L + 1 + 1, c2), (L + 1, c1)])
    (d1 : c1.data = .cell (some (.ref st))) (d2 : c2.data = .cell (some (.int l tl))) (d3 : c3.data = .cell (some (.int r tr))) (hst : 133 ≤ st) (hne : sl ≠ st) (hi : IntsAre ws ns) (hn : ns.length ≤ 63)
    (i1 : 0 ≤ i) (i2 : i ≤ 63) (i3 : 0 ≤ x) (i4 : x < 2147483647) (hcl : IsC l) (hcr : IsC r) (hb1 : 1 ≤ tp) (hb2 : tp ≤ 15) (hb3 : 1 ≤ b) (hb4 : b ≤ 15) (q1 : l ≤ r) (q2 : r < l + 4) (q3 : tp ≤ b) (q4 : b < tp + 4) (hc : @LT.lt Nat _ (L + 1 + 1 + 1 + 1) sl) (hc2 : @LT.lt Nat _ sl st)
    (ret : After3 w h₀ L st sl ws c1 c2 c4 s Q 1 l tp),
    wpAny (model PySem.Challenge.rw_ez0208_01.row.prog w) ⟨none, d, fr, gd, u⟩ (execs ((lawBody.drop 3).take 2) (envOfC (Str.ofString "law") lawScope L fa cd)) Q E s := by
  k_fill
  intro w mg mb d u fr gd s Q E h₀ L fa st sl cd ws ns c1 c2 c3 c4 t1 t2 tk0 tt tb tl tr n m i x l tp r b X T hd hu F N d1 d2 d3 hst hne hi hn i1 i2 i3 i4 hcl hcr hb1 hb2 hb3 hb4 q1 q2 q3 q4 hc hc2 ret
  have eS : lawScope = lawScope := rfl
  conv at eS => rhs; whnf
  rw [eS]
  conv => arg 3; arg 1; whnf
  (try simp only [List.take_succ_cons, List.take_zero])
  clear eS
  k_steps
  all_goals (
    (with_reducible rename Fr _ _ _ _ => F9)
    (with_reducible rename News _ _ _ _ => N9)
    with_reducible rename PartLR _ l tp => p1; with_reducible rename PartLR _ r b => p2; obtain ⟨y9, T9⟩ := told_two p1 p2 hcl hb1 hb2 hcr hb3 hb4
    refine' ret (t1 := _) (y := y9) (r := r) (b := b) (os := [some l, some tp, some r, some b]) (t5 := tl) (t6 := tt) (t7 := tr) (t8 := tb) ?c3 ?lt F9 rfl rfl rfl rfl rfl ?nn ?_ ?_ ?_ ?_ hcr hb3 hb4 ?_ ?_ ?_ ?_ (.k1 rfl T9)
    case nn => exact news_sub N9 (by k_subL)
    case c3 => exact ⟨_, by assumption⟩
    case lt => (with_reducible rename _ ∧ _ => l9); first | exact l9.1 | exact l9.2.1 | exact l9.2.2.1 | exact l9.2.2.2.1 | exact l9.2.2.2.2.1
    all_goals first | assumption | omega)
theorem law_32 : ∀ {w : World} {mg mb : Str → Option Value} {d u : Nat} {fr : Option (List Env)} {gd : Option (List Code)} {s : Shared} {Q : Flow → Shared → Prop} {E : Value → Shared → Prop} {h₀ : Heap} {L fa st sl : Addr} {cd : Value} {ws : List Value} {ns : List Int} {c1 c2 c3 c4 : Obj} {t1 t2 tk0 tt tb tl tr : Tok} {n : Nat} {m : Str → Option Value} {i x l tp r b : Int}
    (X : (Mine.hd.heap_39 w.params).In h₀) (T : TopRead Mine.hd.view_39 LO mg mb h₀) (hd : d + 100 < recursionLimit) (hu : u + 1000 < cLine)
    (F : Fr h₀ L s.heap (fun y => if y = Str.ofString "bottom" then some (.int b tb) else if y = Str.ofString "top" then some (.int tp tt) else if y = Str.ofString "kind" then some (.int 2 tk0) else m y)) (N : News h₀ L s.heap [(st, stObj sl i x t1 t2 n), (sl, listOf ws.toArray 0), (L + 1 + 1 + 1 + 1, c4), (L + 1 + 1 + 1, c3), (L + 1 + 1, c2), (L + 1, c1)])
    (d1 : c1.data = .cell (some (.ref st))) (d2 : c2.data = .cell (some (.int l tl))) (d3 : c3.data = .cell (some (.int r tr))) (hst : 133 ≤ st) (hne : sl ≠ st) (hi : IntsAre ws ns) (hn : ns.length ≤ 63)
    (i1 : 0 ≤ i) (i2 : i ≤ 63) (i3 : 0 ≤ x) (i4 : x < 2147483647) (hcl : IsC l) (hcr : IsC r) (hb1 : 1 ≤ tp) (hb2 : tp ≤ 15) (hb3 : 1 ≤ b) (hb4 : b ≤ 15) (q1 : l ≤ r) (q2 : r < l + 4) (q3 : tp ≤ b) (q4 : b < tp + 4) (hc : @LT.lt Nat _ (L + 1 + 1 + 1 + 1) sl) (hc2 : @LT.lt Nat _ sl st)
    (ret : After3 w h₀ L st sl ws c1 c2 c4 s Q 2 l tp),
    wpAny (model PySem.Challenge.rw_ez0208_01.row.prog w) ⟨none, d, fr, gd, u⟩ (execs ((lawBody.drop 3).take 2) (envOfC (Str.ofString "law") lawScope L fa cd)) Q E s := by
  k_fill
  intro w mg mb d u fr gd s Q E h₀ L fa st sl cd ws ns c1 c2 c3 c4 t1 t2 tk0 tt tb tl tr n m i x l tp r b X T hd hu F N d1 d2 d3 hst hne hi hn i1 i2 i3 i4 hcl hcr hb1 hb2 hb3 hb4 q1 q2 q3 q4 hc hc2 ret
  have eS : lawScope = lawScope := rfl
  conv at eS => rhs; whnf
  rw [eS]
  conv => arg 3; arg 1; whnf
  (try simp only [List.take_succ_cons, List.take_zero])
  clear eS
  k_steps
  all_goals (
    (with_reducible rename Fr _ _ _ _ => F9)
    (with_reducible rename News _ _ _ _ => N9)
    with_reducible rename PartL _ l => p1; with_reducible rename PartL _ r => p2; obtain ⟨y9, T9⟩ := told_cols p1 p2 hcl hcr
    refine' ret (t1 := _) (y := y9) (r := r) (b := b) (os := [some l, none, some r, none]) (t5 := tl) (t6 := 0) (t7 := tr) (t8 := 0) ?c3 ?lt F9 rfl rfl rfl rfl rfl ?nn ?_ ?_ ?_ ?_ hcr hb3 hb4 ?_ ?_ ?_ ?_ (.k2 rfl T9)
    case nn => exact news_sub N9 (by k_subL)
    case c3 => exact ⟨_, by assumption⟩
    case lt => (with_reducible rename _ ∧ _ => l9); first | exact l9.1 | exact l9.2.1 | exact l9.2.2.1 | exact l9.2.2.2.1 | exact l9.2.2.2.2.1
    all_goals first | assumption | omega)
theorem law_33 : ∀ {w : World} {mg mb : Str → Option Value} {d u : Nat} {fr : Option (List Env)} {gd : Option (List Code)} {s : Shared} {Q : Flow → Shared → Prop} {E : Value → Shared → Prop} {h₀ : Heap} {L fa st sl : Addr} {cd : Value} {ws : List Value} {ns : List Int} {c1 c2 c3 c4 : Obj} {t1 t2 tk0 tt tb tl tr : Tok} {n : Nat} {m : Str → Option Value} {i x l tp r b : Int}
    (X : (Mine.hd.heap_39 w.params).In h₀) (T : TopRead Mine.hd.view_39 LO mg mb h₀) (hd : d + 100 < recursionLimit) (hu : u + 1000 < cLine)
    (F : Fr h₀ L s.heap (fun y => if y = Str.ofString "bottom" then some (.int b tb) else if y = Str.ofString "top" then some (.int tp tt) else if y = Str.ofString "kind" then some (.int 3 tk0) else m y)) (N : News h₀ L s.heap [(st, stObj sl i x t1 t2 n), (sl, listOf ws.toArray 0), (L + 1 + 1 + 1 + 1, c4), (L + 1 + 1 + 1, c3), (L + 1 + 1, c2), (L + 1, c1)])
    (d1 : c1.data = .cell (some (.ref st))) (d2 : c2.data = .cell (some (.int l tl))) (d3 : c3.data = .cell (some (.int r tr))) (hst : 133 ≤ st) (hne : sl ≠ st) (hi : IntsAre ws ns) (hn : ns.length ≤ 63)
    (i1 : 0 ≤ i) (i2 : i ≤ 63) (i3 : 0 ≤ x) (i4 : x < 2147483647) (hcl : IsC l) (hcr : IsC r) (hb1 : 1 ≤ tp) (hb2 : tp ≤ 15) (hb3 : 1 ≤ b) (hb4 : b ≤ 15) (q1 : l ≤ r) (q2 : r < l + 4) (q3 : tp ≤ b) (q4 : b < tp + 4) (hc : @LT.lt Nat _ (L + 1 + 1 + 1 + 1) sl) (hc2 : @LT.lt Nat _ sl st)
    (ret : After3 w h₀ L st sl ws c1 c2 c4 s Q 3 l tp),
    wpAny (model PySem.Challenge.rw_ez0208_01.row.prog w) ⟨none, d, fr, gd, u⟩ (execs ((lawBody.drop 3).take 2) (envOfC (Str.ofString "law") lawScope L fa cd)) Q E s := by
  k_fill
  intro w mg mb d u fr gd s Q E h₀ L fa st sl cd ws ns c1 c2 c3 c4 t1 t2 tk0 tt tb tl tr n m i x l tp r b X T hd hu F N d1 d2 d3 hst hne hi hn i1 i2 i3 i4 hcl hcr hb1 hb2 hb3 hb4 q1 q2 q3 q4 hc hc2 ret
  have eS : lawScope = lawScope := rfl
  conv at eS => rhs; whnf
  rw [eS]
  conv => arg 3; arg 1; whnf
  (try simp only [List.take_succ_cons, List.take_zero])
  clear eS
  k_steps
  all_goals (
    (with_reducible rename Fr _ _ _ _ => F9)
    (with_reducible rename News _ _ _ _ => N9)
    with_reducible rename PartR _ tp => p1; with_reducible rename PartR _ b => p2; obtain ⟨y9, T9⟩ := told_rows p1 p2 hb1 hb2 hb3 hb4
    refine' ret (t1 := _) (y := y9) (r := r) (b := b) (os := [none, some tp, none, some b]) (t5 := 0) (t6 := tt) (t7 := 0) (t8 := tb) ?c3 ?lt F9 rfl rfl rfl rfl rfl ?nn ?_ ?_ ?_ ?_ hcr hb3 hb4 ?_ ?_ ?_ ?_ (.k3 rfl T9)
    case nn => exact news_sub N9 (by k_subL)
    case c3 => exact ⟨_, by assumption⟩
    case lt => (with_reducible rename _ ∧ _ => l9); first | exact l9.1 | exact l9.2.1 | exact l9.2.2.1 | exact l9.2.2.2.1 | exact l9.2.2.2.2.1
    all_goals first | assumption | omega)
end Mine
end
section
open PySem PySem.W PySem.Calls PySem.Spec PyProof.Rows
set_option Elab.async false
set_option maxRecDepth 100000
set_option maxHeartbeats 4000000
set_option linter.unusedVariables false
namespace Mine
theorem fillK9 : PySem.Challenge.rw_ez0208_01 = PySem.Challenge.rw_ez0208_01 → (∀ P, Mine.hd.heap_39 P = Mine.hd.heap_39 P) := by k_fill; intros; rfl
def ch (c : Nat) : Str := ⟨#[c]⟩
theorem join_ch (l : List Nat) : Txt.join (Str.ofString "") (l.map ch) = ⟨l.toArray⟩ := by
  have key : ∀ (l : List Nat) (a : Array Nat), (l.map ch).foldl (fun acc p => acc ++ (Str.ofString "").cps ++ p.cps) a = a ++ l.toArray := by
    intro l
    induction l with
    | nil => intro a; simp
    | cons c l ih =>
      intro a
      rw [List.map_cons, List.foldl_cons, ih, cps_e]
      apply Array.ext'
      simp [ch]
  cases l with
  | nil => rfl
  | cons c l =>
    show (⟨(l.map ch).foldl (fun acc p => acc ++ (Str.ofString "").cps ++ p.cps) (ch c).cps⟩ : Str) = _
    rw [key]
    congr 1
    apply Array.ext'
    simp [ch]
theorem item_ch {r : Int} (h0 : 0 ≤ r) (h1 : r < 5) : ∃ c, c ∈ cs ∧ Txt.item (Str.ofString "a'b !") r = ch c := by
  have hr : r = 0 ∨ r = 1 ∨ r = 2 ∨ r = 3 ∨ r = 4 := by omega
  rcases hr with rfl | rfl | rfl | rfl | rfl
  · exact ⟨97, by decide, by decide +kernel⟩
  · exact ⟨39, by decide, by decide +kernel⟩
  · exact ⟨98, by decide, by decide +kernel⟩
  · exact ⟨32, by decide, by decide +kernel⟩
  · exact ⟨33, by decide, by decide +kernel⟩
theorem strs_snoc {y : Str} {t : Tok} : ∀ {vs : List Value} {ys : List Str}, StrsAre vs ys → StrsAre (vs ++ [.str y t]) (ys ++ [y])
  | _, _, .nil => .cons y t .nil
  | _, _, .cons z u r => .cons z u (strs_snoc r)
/-- a list made of signs drawn from the state -/
def DrawEl (nw : Int → Int → Tok → Tok → Nat → List (Addr × Obj)) (y : Value) (news : List (Addr × Obj)) : Prop :=
  ∃ i x t1 t2 n c t, 0 ≤ i ∧ i ≤ 63 ∧ 0 ≤ x ∧ x < 2147483647 ∧ c ∈ cs ∧ y = .str (ch c) t ∧ news = nw i x t1 t2 n
def Led (D st sl : Addr) (oD : Obj) (ws : List Value) (c4 c3 c2 c1 : Obj) (a4 a3 a2 a1 : Addr) (i x : Int) (t1 t2 : Tok) (n : Nat) : List (Addr × Obj) := [(D, oD), (st, stObj sl i x t1 t2 n), (sl, listOf ws.toArray 0), (a4, c4), (a3, c3), (a2, c2), (a1, c1)]
theorem cr_draw {prog : Program} {w : World} {A : Around} {h₀ : Heap} {L : Addr} {m : Str → Option Value} {env : Env} {elt : Expr} {x : Str} {scope : Scope} {cl : List (Str × Addr)} {s : Shared} {S : List (Addr × Obj) → Prop} {P : Nat → Value → Prop} {Fin : List Value → List (Addr × Obj) → Prop} {N : Nat}
    (nw : Int → Int → Tok → Tok → Nat → List (Addr × Obj)) {i₀ x₀ : Int} {t1₀ t2₀ : Tok} {n₀ : Nat} (b1 : 0 ≤ i₀) (b2 : i₀ ≤ 63) (b3 : 0 ≤ x₀) (b4 : x₀ < 2147483647)
    (turn : ∀ I oI C oC D m₂ ys h tk (E' : Value → Shared → Prop) i x t1 t2 n, 0 ≤ i → i ≤ 63 → 0 ≤ x → x < 2147483647 → LCg.NsObj oC m₂ → Fr h₀ L h m → News h₀ L h ((I, oI) :: (C, oC) :: (D, LCg.lst ys) :: nw i x t1 t2 n) → LCg.Off3 I C D (nw i x t1 t2 n) → ((@Ne Nat I C) ∧ (@Ne Nat I D) ∧ (@Ne Nat C D)) →
      wpAny (model prog w) A (eval elt (compEnvC scope cl C env)) (LCg.CompEnd h₀ L m { s with heap := h, toks := tk } I oI C oC D (LCg.lst ys) S (DrawEl nw)) E' { s with heap := h, toks := tk })
    (fin : ∀ ys (l : List Nat) i x t1 t2 n, l.length = N → (∀ c ∈ l, c ∈ cs) → StrsAre ys (l.map ch) → 0 ≤ i → i ≤ 63 → 0 ≤ x → x < 2147483647 → Fin ys (nw i x t1 t2 n)) : LCg.CompRest prog w A h₀ L m env elt x scope cl s S P Fin N 0 [] (nw i₀ x₀ t1₀ t2₀ n₀) := by
  have key : ∀ (j i' : Nat) (ys : List Value) (l : List Nat) (i x₁ : Int) (t1 t2 : Tok) (n : Nat), l.length + j = N → (∀ c ∈ l, c ∈ cs) → StrsAre ys (l.map ch) → 0 ≤ i → i ≤ 63 → 0 ≤ x₁ → x₁ < 2147483647 → LCg.CompRest prog w A h₀ L m env elt x scope cl s S P Fin j i' ys (nw i x₁ t1 t2 n) := by
    intro j
    induction j with
    | zero => intro i' ys l i x₁ t1 t2 n hl hc hy a1 a2 a3 a4; exact LCg.CompRest.zero (fin ys l i x₁ t1 t2 n (by omega) hc hy a1 a2 a3 a4)
    | succ j ih =>
      intro i' ys l i x₁ t1 t2 n hl hc hy a1 a2 a3 a4
      refine LCg.CompRest.succ ?_
      intro v I oI C oC D m₂ h tk E' hv hC hx F N off ne
      refine wpAny_mono (turn I oI C oC D m₂ ys h tk E' i x₁ t1 t2 n a1 a2 a3 a4 hC F N off ne) (fun y s₂ hq => ?_) fun _ _ e => e
      obtain ⟨h', tk', nw', e, F', N', off', hS, i2, x2, t12, t22, n2, c, t, z1, z2, z3, z4, z5, z6, z7⟩ := hq
      subst z7
      subst z6
      refine ⟨h', tk', _, e, F', N', off', hS, ih (i' + 1) _ (l ++ [c]) i2 x2 t12 t22 n2 (by rw [List.length_append]; show l.length + 1 + j = _; omega) (fun c' hc' => ?_) ?_ z1 z2 z3 z4⟩
      · rcases List.mem_append.mp hc' with q | q
        · exact hc c' q
        · rw [List.mem_singleton.mp q]; exact z5
      · rw [List.map_append]; exact strs_snoc hy
  exact key N 0 [] [] _ _ _ _ _ (by simp) (fun _ h => nomatch h) .nil b1 b2 b3 b4
theorem draw_el {nw : Int → Int → Tok → Tok → Nat → List (Addr × Obj)} {r i x : Int} {t1 t2 t : Tok} {n : Nat} {news : List (Addr × Obj)} (h0 : 0 ≤ r) (h1 : r < 5) (a1 : 0 ≤ i) (a2 : i ≤ 63) (a3 : 0 ≤ x) (a4 : x < 2147483647) (e : news = nw i x t1 t2 n) : DrawEl nw (.str (Txt.item (Str.ofString "a'b !") r) t) news := by
  obtain ⟨c, hc, hr⟩ := item_ch h0 h1
  exact ⟨i, x, t1, t2, n, c, t, a1, a2, a3, a4, hc, by rw [hr], e⟩
theorem join_F {prog : Program} {w : World} {A : Around} {E : Value → Shared → Prop} {s : Shared} {h₀ : Heap} {L D : Addr} {news : List (Addr × Obj)} {ys : List Value} {l : List Nat} {t : Tok} {Q : Value → Shared → Prop} (N : News h₀ L s.heap news) (hm : (D, LCg.lst ys) ∈ news) (hy : StrsAre ys (l.map ch)) (hl : l.length ≤ 100)
    (h : ∀ t' k, Q (.str ⟨l.toArray⟩ t') { s with toks := k }) : wpAny (model prog w) A (call (.builtin "str.join") [.str (Str.ofString "") t, .ref D]) Q E s := by
  refine join_list (items := ys.toArray) (ys := l.map ch) ⟨_, (N _ hm).1, rfl, _, rfl⟩ (by simpa using hy) ?_ fun t' k => by rw [join_ch]; exact h t' k
  have e : ((l.map ch).map (·.length)).sum = l.length := by
    clear hy hl h
    induction l with
    | nil => rfl
    | cons c l ih => rw [List.map_cons, List.map_cons, List.sum_cons, ih, List.length_cons]; show 1 + _ = _; omega
  rw [e, List.length_map]
  have e2 : (Str.ofString "").length = 0 := by decide +kernel
  rw [e2]
  omega
local macro_rules | `(tactic| walk_at "call ref") => `(tactic| ((with_reducible show wpAny _ _ (call (Value.ref 106) [Value.ref _, Value.int _ _] _) _ _ _); (rename Fr _ _ _ _ => lF'); (rename News _ _ _ _ => lN'); k_dflt (refine draw_c (by assumption) (by assumption) lF' lN' (by k_updF) (by first | omega | (dsimp only [Around.deeper]; omega)) (by first | omega | (dsimp only [Around.deeper]; omega)) (by assumption) (isL_of lN' (by k_mem)) (by assumption) (by assumption) (by assumption) (by assumption) (by assumption) (by assumption) (by assumption) (by decide) (by decide) ?_); intro h' tk' t' r' i' x' t1' t2' n' F' N' hl' b1 b2 b3 b4 b5 b6; clear lF' lN' hl'; (try dsimp only at N')))
local macro_rules | `(tactic| walk_at "CompSrc") => `(tactic| (k_dflt (refine LCg.CompSrc.range (by rfl) (by k_asm) (by k_asm) (by assumption) (small_one (by omega) (by omega) (by omega) (by omega)) (rangeSize_nat _ _) (by rw [PySem.sizeLine_eq]; omega) ?_); intro g'; k_dflt (refine cr_draw (Led _ _ _ _ _ _ _ _ _ _ _ _ _) (by assumption) (by assumption) (by assumption) (by assumption) (fun I' oI' C' oC' D' m' ys' h' tk' E' i' x' t1' t2' n' b1 b2 b3 b4 hC' F' N' off' ne' => ?_) (fun ys' l' i' x' t1' t2' n' hl' hc' hy' b1 b2 b3 b4 => ?_)); (try unfold Led at N'); (try unfold Led at off'); (try simp only [LCg.Off3, and_true] at off')))
local macro_rules | `(tactic| walk_at "DrawEl") => `(tactic| (exact draw_el (by omega) (by omega) (by omega) (by omega) (by omega) (by omega) rfl))
local macro_rules | `(tactic| walk_at "call builtin:str.join") => `(tactic| ((rename News _ _ _ _ => lN'); (try unfold Led at lN'); k_dflt (refine join_F lN' (by k_mem) (by assumption) (by omega) ?_); intro t' k'))
local macro_rules | `(tactic| walk_at "execs cons") => `(tactic| (k_here; (refine gen_pos (by omega) ?_); intro tk' tp'; (with_reducible refine wpAny_execs_cons ?_); try dsimp only))
theorem law_4 : ∀ {w : World} {mg mb : Str → Option Value} {d u : Nat} {fr : Option (List Env)} {gd : Option (List Code)} {s : Shared} {Q : Flow → Shared → Prop} {E : Value → Shared → Prop} {h₀ : Heap} {L fa st sl D : Addr} {oD : Obj} {cd : Value} {ws : List Value} {ns : List Int} {c1 c2 c3 c4 : Obj} {t1 t2 : Tok} {n : Nat} {m : Str → Option Value} {i x : Int}
    (X : (Mine.hd.heap_39 w.params).In h₀) (T : TopRead Mine.hd.view_39 LO mg mb h₀) (hd : d + 100 < recursionLimit) (hu : u + 1000 < cLine)
    (F : Fr h₀ L s.heap m) (N : News h₀ L s.heap [(D, oD), (st, stObj sl i x t1 t2 n), (sl, listOf ws.toArray 0), (L + 1 + 1 + 1 + 1, c4), (L + 1 + 1 + 1, c3), (L + 1 + 1, c2), (L + 1, c1)])
    (d1 : c1.data = .cell (some (.ref st))) (hst : 133 ≤ st) (hne : sl ≠ st) (hi : IntsAre ws ns) (hn : ns.length ≤ 63)
    (i1 : 0 ≤ i) (i2 : i ≤ 63) (i3 : 0 ≤ x) (i4 : x < 2147483647) (hc : @LT.lt Nat _ (L + 1 + 1 + 1 + 1) sl) (hc2 : @LT.lt Nat _ sl st) (hc3 : @LT.lt Nat _ st D)
    (ret : ∀ h' tk i x t1 t2 n (l : List Nat) tn, 1 ≤ l.length → l.length ≤ 4 → (∀ c ∈ l, c ∈ cs) → Fr h₀ L h' (fun y => if y = Str.ofString "name" then some (.str ⟨l.toArray⟩ tn) else m y) →
      News h₀ L h' [(D, oD), (st, stObj sl i x t1 t2 n), (sl, listOf ws.toArray 0), (L + 1 + 1 + 1 + 1, c4), (L + 1 + 1 + 1, c3), (L + 1 + 1, c2), (L + 1, c1)] →
      0 ≤ i → i ≤ 63 → 0 ≤ x → x < 2147483647 → Q .next { s with heap := h', toks := tk }),
    wpAny (model PySem.Challenge.rw_ez0208_01.row.prog w) ⟨none, d, fr, gd, u⟩ (execs ((lawBody.drop 5).take 1) (envOfC (Str.ofString "law") lawScope L fa cd)) Q E s := by
  k_fill
  intro w mg mb d u fr gd s Q E h₀ L fa st sl D oD cd ws ns c1 c2 c3 c4 t1 t2 n m i x X T hd hu F N d1 hst hne hi hn i1 i2 i3 i4 hc hc2 hc3 ret
  have eS : lawScope = lawScope := rfl
  conv at eS => rhs; whnf
  rw [eS]
  conv => arg 3; arg 1; whnf
  (try simp only [List.take_succ_cons, List.take_zero])
  clear eS
  k_steps
  all_goals (
    (with_reducible rename Fr _ _ _ _ => F9)
    (with_reducible rename News _ _ _ _ => N9)
    (with_reducible rename StrsAre _ _ => S9)
    (rename_i hl9 hc9 a1 a2 a3 a4 _ _ _ _ _ _)
    refine' ret _ _ _ _ _ _ _ _ _ ?l1 ?l2 ?l3 F9 (news_sub N9 (by k_subL)) ?_ ?_ ?_ ?_
    all_goals first | assumption | omega)
end Mine
end
section
local macro_rules | `(tactic| walk_at "mine pad 0") => `(tactic| skip)
local macro_rules | `(tactic| walk_at "mine pad 1") => `(tactic| skip)
local macro_rules | `(tactic| walk_at "mine pad 2") => `(tactic| skip)
local macro_rules | `(tactic| walk_at "mine pad 3") => `(tactic| skip)
local macro_rules | `(tactic| walk_at "mine pad 4") => `(tactic| skip)
local macro_rules | `(tactic| walk_at "mine pad 5") => `(tactic| skip)
local macro_rules | `(tactic| walk_at "mine pad 6") => `(tactic| skip)
local macro_rules | `(tactic| walk_at "mine pad 7") => `(tactic| skip)
local macro_rules | `(tactic| walk_at "mine pad 8") => `(tactic| skip)
local macro_rules | `(tactic| walk_at "mine pad 9") => `(tactic| skip)
local macro_rules | `(tactic| walk_at "mine pad 10") => `(tactic| skip)
local macro_rules | `(tactic| walk_at "mine pad 11") => `(tactic| skip)
local macro_rules | `(tactic| walk_at "mine pad 12") => `(tactic| skip)
local macro_rules | `(tactic| walk_at "mine pad 13") => `(tactic| skip)
open PySem PySem.W PySem.Calls PySem.Spec PyProof.Rows
set_option Elab.async false
set_option maxRecDepth 100000
set_option maxHeartbeats 4000000
set_option linter.unusedVariables false
set_option linter.unusedSimpArgs false
namespace Mine
theorem fillK10 : PySem.Challenge.rw_ez0208_01 = PySem.Challenge.rw_ez0208_01 → (∀ P, Mine.hd.heap_39 P = Mine.hd.heap_39 P) := by k_fill; intros; rfl
theorem below_law {d u : Nat} {gd : Option (List Code)} {h₀ h : Heap} {L a : Addr} {m : Str → Option Value} {name : Str} {scope : Scope} {cd : Value} (F : Fr h₀ L h m) (hk : scope.kind = .function) :
    Below ⟨none, d, some [envOfC name scope L a cd], gd, u⟩ h₀ [envOfC name scope L a cd] h := by
  refine ⟨rfl, fun b o e => F.keep b o e, ?_, ?_, trivial⟩
  · show scope.kind ≠ .module
    rw [hk]; decide
  · obtain ⟨o, es, ep, ho, hd, r⟩ := F.ns
    refine ⟨L, o, rfl, ?_, ho, fun vs e => by rw [hd] at e; cases e⟩
    cases hq : h₀.get? L with
    | none => rfl
    | some o => exact absurd (Nat.lt_of_lt_of_le (Heap.lt_size hq) F.above) (Nat.lt_irrefl _)
theorem kts_law {h₀ h : Heap} {L a : Addr} {m : Str → Option Value} {name : Str} {scope : Scope} {cd : Value} (F : Fr h₀ L h m) : KtsDicts ([envOfC name scope L a cd].filterMap (·.frame)) h := fun b hb => by
  have e : b = L := by simpa [envOfC] using hb
  subst e
  obtain ⟨o, es, ep, ho, r⟩ := F.ns
  exact ⟨o, es, ep, ho, r.1⟩
theorem fr_turn {h₀ h h' : Heap} {L a : Addr} {m : Str → Option Value} {news : List (Addr × Obj)} {name : Str} {scope : Scope} {cd : Value} (F : Fr h₀ L h m) (N : News h₀ L h news)
    (hk : ∀ b o, h.get? b = some o → b ∉ [envOfC name scope L a cd].filterMap (·.frame) → h'.get? b = some o) (up : h.UpToSlots h') : Fr h₀ L h' m ∧ News h₀ L h' news := by
  have off : ∀ b, b ≠ L → b ∉ [envOfC name scope L a cd].filterMap (·.frame) := fun b hb hm => hb (by simpa [envOfC] using hm)
  refine ⟨⟨up.ns F.ns, fun b o e => hk b o (F.keep b o e) (off b fun q => ?_), F.above⟩, fun p hp => ⟨hk _ _ (N p hp).1 (off _ (N p hp).2.1), (N p hp).2⟩⟩
  subst q
  exact absurd (Nat.lt_of_lt_of_le (Heap.lt_size e) F.above) (Nat.lt_irrefl _)
def dI : Option Int → PyData
  | none => .none
  | some i => .int i
theorem reads_iv (h : Heap) (o : Option Int) (t : Tok) : Reads h (iv o t) (dI o) [] := by
  cases o with
  | none => exact .none
  | some i => exact .int i t
def dT (o1 o2 o3 o4 : Option Int) : PyData := .tuple [dI o1, dI o2, dI o3, dI o4]
theorem reads_tup4 {h : Heap} {D : Addr} {o1 o2 o3 o4 : Option Int} {t1 t2 t3 t4 : Tok} (hD : h.get? D = some (tupObj [iv o1 t1, iv o2 t2, iv o3 t3, iv o4 t4])) : Reads h (.ref D) (dT o1 o2 o3 o4) [] :=
  reads_tuple_at (n := 0) hD rfl rfl (.cons (reads_iv h o1 t1) (.cons (reads_iv h o2 t2) (.cons (reads_iv h o3 t3) (.cons (reads_iv h o4 t4) .nil))))
theorem eqv_dI (o : Option Int) : PyData.eqv (dI o) (dI o) = true := by cases o <;> simp [dI, PyData.eqv]
theorem eqv_dT (o1 o2 o3 o4 : Option Int) : PyData.eqv (dT o1 o2 o3 o4) (dT o1 o2 o3 o4) = true := by simp [dT, PyData.eqv, PyData.eqvAll, eqv_dI]
theorem shaped_dT (o1 o2 o3 o4 : Option Int) : SeqAt.shaped (dT o1 o2 o3 o4) = true := by
  cases o1 <;> cases o2 <;> cases o3 <;> cases o4 <;> simp [dT, dI, SeqAt.shaped, PyData.canLay0, PyData.canLayAll0, PyData.depth, PyData.depthAll]
section
variable {prog : Program} {w : World} {A : Around} {E : Value → Shared → Prop} {s : Shared} {h₀ : Heap} {L : Addr} {m : Str → Option Value} {news : List (Addr × Obj)}
theorem ne_tup4 {a b : Addr} {o1 o2 o3 o4 : Option Int} {t1 t2 t3 t4 u1 u2 u3 u4 : Tok} {Q : Value → Shared → Prop} (N : News h₀ L s.heap news) (ha : (a, tupObj [iv o1 t1, iv o2 t2, iv o3 t3, iv o4 t4]) ∈ news) (hb : (b, tupObj [iv o1 u1, iv o2 u2, iv o3 u3, iv o4 u4]) ∈ news) (hu : A.units + 64 < cLine)
    (h : Q (.bool false) s) : wpAny (model prog w) A (compareOp .NotEq (.ref a) (.ref b)) Q E s :=
  ne_dataH (reads_tup4 (N _ ha).1) (reads_tup4 (N _ hb).1) (shaped_dT _ _ _ _) (shaped_dT _ _ _ _) hu (by rw [eqv_dT]; exact h)
end
local macro_rules | `(tactic| walk_at "call ref") => `(tactic| ((with_reducible show wpAny _ _ (call (Value.ref 73) [Value.str _ _] _) _ _ _); (rename Fr _ _ _ _ => lF'); (rename News _ _ _ _ => lN'); k_dflt (refine' rb_c ?a ?b ?c ?d ?e ?_; (case a => exact ext_in (by assumption) (fr_ext lF')); (case b => exact ext_read (by assumption) (fr_ext lF')); (case c => (first | omega | (dsimp only [Around.deeper]; omega))); (case d => (first | omega | (dsimp only [Around.deeper]; omega))); (case e => exact Told.bounds (by assumption))); intro D' h' tk' t1' t2' t3' t4' p' x' lD' g'; (have F' := Fr.keeps lF' x'); (obtain ⟨N', l1⟩ := news_new lF' lN' x' lD' g'); clear lF' lN' x' lD' g'; (try k_lt l1)))
local macro_rules | `(tactic| walk_at "compareOp NotEq ref ref") => `(tactic| (k_dflt (refine ne_tup4 (by k_asm) (by k_mem) (by k_mem) (by (dsimp only); omega) ?_)))
local macro_rules | `(tactic| walk_at "call ref") => `(tactic| ((with_reducible show wpAny _ _ (call (Value.ref 127) [Value.ref 92, Value.str _ _] _) _ _ _); (rename Fr _ _ _ _ => lF'); (rename News _ _ _ _ => lN'); k_dflt (refine refused_rt (ext_in (by assumption) (fr_ext lF')) (ext_read (by assumption) (fr_ext lF')) (by assumption) (by assumption) (below_law lF' rfl) (kts_law lF') (by omega) (by omega) (Nat.le_trans (Told.size (by assumption)).2 (by decide)) (Nat.le_trans (Nat.add_le_add_right (Nat.mul_le_mul_left 5 (Told.size (by assumption)).2) 50) (by decide)) (Told.nosheet (by assumption)) ?_); intro h' tk' hk' up'; (obtain ⟨F', N'⟩ := fr_turn lF' lN' hk' up'); clear lF' lN' hk' up'))
local macro_rules | `(tactic| walk_at "execs cons") => `(tactic| (k_here; (refine gen_pos (by omega) ?_); intro tk' tp'; (with_reducible refine wpAny_execs_cons ?_); try dsimp only))
theorem law_7 : ∀ {w : World} {mg mb : Str → Option Value} {mean : ExcName → Option Value} {p9 : Program} {lo9 : List Str} {d u : Nat} {gd : Option (List Code)} {s : Shared} {Q : Flow → Shared → Prop} {E : Value → Shared → Prop} {h₀ : Heap} {L fa D st sl : Addr} {cd : Value} {m : Str → Option Value} {ws : List Value} {i x : Int} {n : Nat} {t1 t2 tx t5 t6 t7 t8 : Tok} {c1 c2 c3 c4 : Obj} {txt y : Str} {o1 o2 o3 o4 : Option Int} {q : Nat}
    (X : (Mine.hd.heap_39 w.params).In h₀) (T : TopRead Mine.hd.view_39 LO mg mb h₀) (TB : Top p9 lo9 mean mg mb h₀) (hd : d + 100 < recursionLimit) (hu : u + 1000 < cLine)
    (F : Fr h₀ L s.heap (fun y => if y = Str.ofString "due" then some (.ref D) else if y = Str.ofString "text" then some (.str txt tx) else m y))
    (N : News h₀ L s.heap [(D, tupObj [iv o1 t5, iv o2 t6, iv o3 t7, iv o4 t8]), (st, stObj sl i x t1 t2 n), (sl, listOf ws.toArray 0), (L + 1 + 1 + 1 + 1, c4), (L + 1 + 1 + 1, c3), (L + 1 + 1, c2), (L + 1, c1)])
    (K : Told txt y o1 o2 o3 o4 q)
    (ret : ∀ h' tk, Fr h₀ L h' (fun y => if y = Str.ofString "due" then some (.ref D) else if y = Str.ofString "text" then some (.str txt tx) else m y) → News h₀ L h' [(D, tupObj [iv o1 t5, iv o2 t6, iv o3 t7, iv o4 t8]), (st, stObj sl i x t1 t2 n), (sl, listOf ws.toArray 0), (L + 1 + 1 + 1 + 1, c4), (L + 1 + 1 + 1, c3), (L + 1 + 1, c2), (L + 1, c1)] → Q .next { s with heap := h', toks := tk }),
    wpAny (model PySem.Challenge.rw_ez0208_01.row.prog w) ⟨none, d, some [envOfC (Str.ofString "law") lawScope L fa cd], gd, u⟩ (execs ((lawBody.drop 6).take 1) (envOfC (Str.ofString "law") lawScope L fa cd)) Q E s := by
  k_fill
  intro w mg mb mean p9 lo9 d u gd s Q E h₀ L fa D st sl cd m ws i x n t1 t2 tx t5 t6 t7 t8 c1 c2 c3 c4 txt y o1 o2 o3 o4 q X T TB hd hu F N K ret
  have eS : lawScope = lawScope := rfl
  conv at eS => rhs; whnf
  rw [eS]
  conv => arg 3; arg 1; whnf
  (try simp only [List.take_succ_cons, List.take_zero])
  clear eS
  k_steps
  all_goals (
    (with_reducible rename Fr _ _ _ _ => F9)
    (with_reducible rename News _ _ _ _ => N9)
    exact ret _ _ F9 (news_sub N9 (by k_subL)))
end Mine
end
section
open PySem PySem.W PySem.Calls PySem.Spec PyProof.Rows
set_option Elab.async false
set_option maxRecDepth 100000
set_option maxHeartbeats 4000000
set_option linter.unusedVariables false
set_option linter.unusedSimpArgs false
namespace Mine
theorem fillK11 : PySem.Challenge.rw_ez0208_01 = PySem.Challenge.rw_ez0208_01 → (∀ P, Mine.hd.heap_39 P = Mine.hd.heap_39 P) := by k_fill; intros; rfl
section
variable {prog : Program} {w : World} {A : Around} {E : Value → Shared → Prop} {s : Shared} {h₀ : Heap} {L : Addr} {m : Str → Option Value} {news : List (Addr × Obj)}
theorem shaped_pair {R : Str} (hR : PyData.strOk R = true) (o1 o2 o3 o4 : Option Int) : SeqAt.shaped (.tuple [.str R, dT o1 o2 o3 o4]) = true := by
  cases o1 <;> cases o2 <;> cases o3 <;> cases o4 <;> simp [dT, dI, SeqAt.shaped, PyData.canLay0, PyData.canLayAll0, PyData.depth, PyData.depthAll, hR]
theorem news_two {h₀ h h' : Heap} {L D D2 : Addr} {m : Str → Option Value} {news : List (Addr × Obj)} {o o2 : Obj} (F : Fr h₀ L h m) (N : News h₀ L h news) (x : Ext h h') (hD : @LE.le Nat _ h.objs.size D) (hD2 : @LE.le Nat _ h.objs.size D2) (hl : @LT.lt Nat _ D2 D) (hg : h'.get? D = some o) (hg2 : h'.get? D2 = some o2) : News h₀ L h' ((D, o) :: (D2, o2) :: news) ∧ ∀ p ∈ (D2, o2) :: news, p.1 < D := by
  obtain ⟨N2, l2⟩ := news_new F N x hD2 hg2
  obtain ⟨N1, l1⟩ := news_new F N x hD hg
  refine ⟨fun p hp => ?_, fun p hp => ?_⟩
  · rcases List.mem_cons.mp hp with rfl | hp
    · exact N1 _ (.head _)
    · exact N2 p hp
  · rcases List.mem_cons.mp hp with rfl | hp
    · exact hl
    · exact l1 p hp
theorem ne_pair {a b a2 b2 : Addr} {R : Str} {tr ur : Tok} {o1 o2 o3 o4 : Option Int} {t1 t2 t3 t4 u1 u2 u3 u4 : Tok} {Q : Value → Shared → Prop} (N : News h₀ L s.heap news) (ha : (a, tupObj [.str R tr, .ref a2]) ∈ news) (ha2 : (a2, tupObj [iv o1 t1, iv o2 t2, iv o3 t3, iv o4 t4]) ∈ news)
    (hb : (b, tupObj [.str R ur, .ref b2]) ∈ news) (hb2 : (b2, tupObj [iv o1 u1, iv o2 u2, iv o3 u3, iv o4 u4]) ∈ news) (hu : A.units + 64 < cLine) (hR : PyData.strOk R = true)
    (h : Q (.bool false) s) : wpAny (model prog w) A (compareOp .NotEq (.ref a) (.ref b)) Q E s :=
  ne_dataH (reads_tuple_at (n := 0) (N _ ha).1 rfl rfl (.cons (.str R tr) (.cons (reads_tup4 (N _ ha2).1) .nil))) (reads_tuple_at (n := 0) (N _ hb).1 rfl rfl (.cons (.str R ur) (.cons (reads_tup4 (N _ hb2).1) .nil))) (shaped_pair hR _ _ _ _) (shaped_pair hR _ _ _ _) hu
    (by simp only [PyData.eqv, PyData.eqvAll, eqv_dT, beq_self_eq_true, Bool.and_true, Bool.not_true]; exact h)
end
local macro_rules | `(tactic| walk_at "compareOp NotEq ref ref") => `(tactic| (k_dflt (refine ne_pair (by k_asm) (by k_mem) (by k_mem) (by k_mem) (by k_mem) (by (dsimp only); omega) (by assumption) ?_)))
local macro_rules | `(tactic| walk_at "call builtin:str.replace") => `(tactic| (k_dflt (refine rep_q (by omega) (by assumption) (by assumption) ?_); intro t' k'))
local macro_rules | `(tactic| kt_len) => `(tactic| (with_reducible assumption))
local macro_rules | `(tactic| walk_at "call ref") => `(tactic| ((with_reducible show wpAny _ _ (call (Value.ref 99) [Value.str _ _] _) _ _ _); (rename Fr _ _ _ _ => lF'); (rename News _ _ _ _ => lN'); k_dflt (refine' quote_c ?a ?b ?c ?d ?e ?f ?g ?i ?_; (case a => exact ext_in (by assumption) (fr_ext lF')); (case b => exact ext_read (by assumption) (fr_ext lF')); (case c => omega); (case d => omega); (case e => assumption); (case f => assumption); (case g => assumption); (case i => assumption)); intro h' tk' t' x'; (have F' := Fr.keeps lF' x'); (have N' := News.grown lN' x'); clear lF' lN' x'))
local macro_rules | `(tactic| walk_at "call ref") => `(tactic| ((with_reducible show wpAny _ _ (call (Value.ref 92) [Value.str _ _] _) _ _ _); (rename Fr _ _ _ _ => lF'); (rename News _ _ _ _ => lN'); k_dflt (refine' rt_ok ?a ?b ?c ?d ?e ?f ?g ?i ?j ?k ?l ?n ?_; (case a => exact ext_in (by assumption) (fr_ext lF')); (case b => exact ext_read (by assumption) (fr_ext lF')); (case c => omega); (case d => omega); (case f => assumption); (case e => assumption); (case g => assumption); (case i => assumption); (case j => assumption); (case k => assumption); (case l => assumption); (case n => exact Told.bounds (by assumption))); intro D' D2' h' tk' t' t1' t2' t3' t4' p' x' lD' lD2' ll' g' g2'; (have F' := Fr.keeps lF' x'); (obtain ⟨N2', l1⟩ := news_new lF' lN' x' lD2' g2'); (obtain ⟨N', l1x⟩ := news_two lF' lN' x' lD' lD2' ll' g' g2'); clear lF' lN' N2' x' lD' lD2' g' g2'; (try k_lt l1); (try k_lt l1x)))
local macro_rules | `(tactic| walk_at "execs cons") => `(tactic| (k_here; (refine gen_pos (by omega) ?_); intro tk' tp'; (with_reducible refine wpAny_execs_cons ?_); try dsimp only))
theorem law_8 : ∀ {w : World} {mg mb : Str → Option Value} {d u : Nat} {fr : Option (List Env)} {gd : Option (List Code)} {s : Shared} {Q : Flow → Shared → Prop} {E : Value → Shared → Prop} {h₀ : Heap} {L fa D st sl : Addr} {cd : Value} {m : Str → Option Value} {ws : List Value} {i x : Int} {n : Nat} {t1 t2 tx tn t5 t6 t7 t8 : Tok} {c1 c2 c3 c4 : Obj} {txt y nm R : Str} {o1 o2 o3 o4 : Option Int} {q : Nat} {v : Nat → Option Nat}
    (X : (Mine.hd.heap_39 w.params).In h₀) (T : TopRead Mine.hd.view_39 LO mg mb h₀) (hd : d + 100 < recursionLimit) (hu : u + 1000 < cLine)
    (F : Fr h₀ L s.heap (fun y => if y = Str.ofString "name" then some (.str nm tn) else if y = Str.ofString "due" then some (.ref D) else if y = Str.ofString "text" then some (.str txt tx) else m y))
    (N : News h₀ L s.heap [(D, tupObj [iv o1 t5, iv o2 t6, iv o3 t7, iv o4 t8]), (st, stObj sl i x t1 t2 n), (sl, listOf ws.toArray 0), (L + 1 + 1 + 1 + 1, c4), (L + 1 + 1 + 1, c3), (L + 1 + 1, c2), (L + 1, c1)])
    (K : Told txt y o1 o2 o3 o4 q) (hx : nm.length ≤ 10) (hR : Txt.replace nm (Str.ofString "'") (Str.ofString "''") = R) (hRl : R.length ≤ 20) (hn : (Builtin.Str.occurrences nm (Str.ofString "'") 0 nm.length 1).isEmpty = true → R = nm)
    (hRo : PyData.strOk R = true) (hR0 : R.cps.size ≠ 0) (hR1 : R.cps.size ≤ 100) (htx : txt.length ≤ 100) (hX : (Str.ofString "'" ++ R ++ Str.ofString "'" ++ Str.ofString "!" ++ txt).cps.size ≤ 1000)
    (f : Fit Rx.codeS 11 30000 (Str.ofString "'" ++ R ++ Str.ofString "'" ++ Str.ofString "!" ++ txt) v (Str.ofString "'" ++ R ++ Str.ofString "'" ++ Str.ofString "!" ++ txt).cps.size) (g2 : grp v (Str.ofString "'" ++ R ++ Str.ofString "'" ++ Str.ofString "!" ++ txt) 2 = some R) (g4 : grp v (Str.ofString "'" ++ R ++ Str.ofString "'" ++ Str.ofString "!" ++ txt) 4 = none) (g5 : grp v (Str.ofString "'" ++ R ++ Str.ofString "'" ++ Str.ofString "!" ++ txt) 5 = some txt)
    (ret : ∀ h' tk, Fr h₀ L h' (fun y => if y = Str.ofString "name" then some (.str nm tn) else if y = Str.ofString "due" then some (.ref D) else if y = Str.ofString "text" then some (.str txt tx) else m y) → News h₀ L h' [(D, tupObj [iv o1 t5, iv o2 t6, iv o3 t7, iv o4 t8]), (st, stObj sl i x t1 t2 n), (sl, listOf ws.toArray 0), (L + 1 + 1 + 1 + 1, c4), (L + 1 + 1 + 1, c3), (L + 1 + 1, c2), (L + 1, c1)] → Q .next { s with heap := h', toks := tk }),
    wpAny (model PySem.Challenge.rw_ez0208_01.row.prog w) ⟨none, d, fr, gd, u⟩ (execs ((lawBody.drop 7).take 1) (envOfC (Str.ofString "law") lawScope L fa cd)) Q E s := by
  k_fill
  intro w mg mb d u fr gd s Q E h₀ L fa D st sl cd m ws i x n t1 t2 tx tn t5 t6 t7 t8 c1 c2 c3 c4 txt y nm R o1 o2 o3 o4 q v X T hd hu F N K hx hR hRl hn hRo hR0 hR1 htx hX f g2 g4 g5 ret
  have eS : lawScope = lawScope := rfl
  conv at eS => rhs; whnf
  rw [eS]
  conv => arg 3; arg 1; whnf
  (try simp only [List.take_succ_cons, List.take_zero])
  clear eS
  k_steps
  all_goals (
    (with_reducible rename Fr _ _ _ _ => F9)
    (with_reducible rename News _ _ _ _ => N9)
    exact ret _ _ F9 (news_sub N9 (by k_subL)))
end Mine
end
section
local macro_rules | `(tactic| walk_at "mine pad 0") => `(tactic| skip)
local macro_rules | `(tactic| walk_at "mine pad 1") => `(tactic| skip)
local macro_rules | `(tactic| walk_at "mine pad 2") => `(tactic| skip)
local macro_rules | `(tactic| walk_at "mine pad 3") => `(tactic| skip)
local macro_rules | `(tactic| walk_at "mine pad 4") => `(tactic| skip)
local macro_rules | `(tactic| walk_at "mine pad 5") => `(tactic| skip)
local macro_rules | `(tactic| walk_at "mine pad 6") => `(tactic| skip)
local macro_rules | `(tactic| walk_at "mine pad 7") => `(tactic| skip)
local macro_rules | `(tactic| walk_at "mine pad 8") => `(tactic| skip)
local macro_rules | `(tactic| walk_at "mine pad 9") => `(tactic| skip)
local macro_rules | `(tactic| walk_at "mine pad 10") => `(tactic| skip)
local macro_rules | `(tactic| walk_at "mine pad 11") => `(tactic| skip)
local macro_rules | `(tactic| walk_at "mine pad 12") => `(tactic| skip)
local macro_rules | `(tactic| walk_at "mine pad 13") => `(tactic| skip)
open PySem PySem.W PySem.Calls PySem.Spec PyProof.Rows
set_option Elab.async false
set_option maxRecDepth 100000
set_option maxHeartbeats 1000000
set_option linter.unusedVariables false
set_option linter.unusedSimpArgs false
namespace Mine
theorem fillK12 : PySem.Challenge.rw_ez0208_01 = PySem.Challenge.rw_ez0208_01 → (∀ P, Mine.hd.heap_39 P = Mine.hd.heap_39 P) := by k_fill; intros; rfl
theorem count_d (y : Str) : Txt.count y (Str.ofString "$") = (cnt y : Int) := by
  have e : Str.ofString "$" = ⟨#[36]⟩ := by decide +kernel
  rw [e, count_is]
  unfold cnt
  induction y.cps.toList with
  | nil => rfl
  | cons c l ih =>
    rw [List.map_cons, List.filter_cons]
    by_cases h : c = 36
    · subst h
      simp [PySem.Spec.countIn, PySem.Spec.same] at ih ⊢
      omega
    · simp [PySem.Spec.countIn, PySem.Spec.same, h] at ih ⊢
      omega
def ivK : ItemKind (Option Int) := ⟨fun o v => ∃ t, v = iv o t, fun v => match v with | .int i _ => some (some i) | .none => some none | _ => none, fun o v h => by obtain ⟨t, rfl⟩ := h; cases o <;> rfl⟩
section
variable {prog : Program} {w : World} {A : Around} {E : Value → Shared → Prop} {s₁ : Shared} {h₀ : Heap} {L : Addr} {m : Str → Option Value} {news : List (Addr × Obj)}
theorem carried_len : ∀ {vs : List Value} {ds : List PyData}, CarriedAll vs ds → vs.length = ds.length
  | _, _, .nil => rfl
  | _, _, .cons _ r => congrArg Nat.succ (carried_len r)
theorem keeps_refl (s : Shared) : Keeps s s := ⟨s.heap, s.toks, rfl, fun _ _ e => e⟩
theorem due_src {env : Env} {x : Str} {p1 p2 p3 p4 : Pos} {kk : Nat} {scope : Scope} {Q : Value → Shared → Prop} {D : Addr} {vs : List Value} {os : List (Option Int)} (hh : A.handled = none) (F : Fr h₀ L s₁.heap m) (N : News h₀ L s₁.heap news) (hm : (D, tupObj vs) ∈ news) (hv : AreOf ivK vs os) (hl : os.length ≤ 10)
    (hk : ∀ C, (compEnv scope C env).scope.kind = .function) (hx : ∀ C, (compEnv scope C env).kindOf x = some .local) (hd : (x == ("__debug__" : Str)) = false)
    (g3 : ∀ Dl (ys : List Value) h' tk, Fr h₀ L h' m → News h₀ L h' news → h'.IsList Dl ys.toArray → ys.length = (os.filter (·.isSome)).length → Q (.ref Dl) { s₁ with heap := h', toks := tk }) :
    wpAny (model prog w) A (pyIter (.ref D)) (CompPost prog w A env scope x [.Compare (.Name x p1) [.IsNot] [.Constant .none kk p2] p3] (.Name x p4) Q) E s₁ := by
  refine srcC_tupleD (K := ivK) (pz := (·.isSome)) (d := dI) hh ⟨_, (N _ hm).1, rfl, _, rfl⟩ hv F N ?_ ?_ ?_ (Nat.le_trans hl (by decide))
  · intro C a v s₂ m₂ E' hk' hn hmx _
    obtain ⟨t, rfl⟩ := hk'
    refine wpAny_tests_one (wpAny_isTrue_Compare1 (wpAny_Name (wpAny_loadName_local (hk C) (hx C) hn hmx ?_) hd) rfl)
    refine wpAny_pure ?_
    cases a with
    | none => exact wpAny_isNot_self rfl (wpAny_truthy_bool ⟨rfl, keeps_refl _⟩)
    | some i => exact wpAny_isNot_other rfl (by simp [iv]) (wpAny_truthy_bool ⟨rfl, keeps_refl _⟩)
  · intro C a v s₂ m₂ E' hk' ha hn hmx _
    obtain ⟨t, rfl⟩ := hk'
    refine wpAny_Name (wpAny_loadName_local (hk C) (hx C) hn hmx ?_) hd
    cases a with
    | none => cases ha
    | some i => exact ⟨.int i t, keeps_refl _⟩
  · intro Dl ys h' tk F' N' _ hL _ hC
    refine g3 Dl ys h' tk F' N' hL ?_
    rw [carried_len hC, List.length_map]
theorem iv_n {vs : List Value} {os : List (Option Int)} (h : AreOf ivK vs os) : AreOf ivK (.none :: vs) (none :: os) := .cons ⟨0, rfl⟩ h
theorem iv_s {vs : List Value} {os : List (Option Int)} {i : Int} {t : Tok} (h : AreOf ivK vs os) : AreOf ivK (.int i t :: vs) (some i :: os) := .cons ⟨t, rfl⟩ h
end
local macro_rules | `(tactic| walk_at "pyIter ref") => `(tactic| ((with_reducible show wpAny _ _ (pyIter (Value.ref _)) (CompPost _ _ _ _ _ _ _ _ _) _ _); k_dflt (refine due_src rfl (by k_asm) (by k_asm) (by k_mem) (by repeat (first | exact AreOf.nil | apply iv_n | apply iv_s)) (by exact Nat.le_of_ble_eq_true rfl) (fun _ => rfl) (fun _ => rfl) (by decide) ?_); intro Dl' ys' h' tk' F' N' hL' hn'))
local macro_rules | `(tactic| walk_at "call builtin:len") => `(tactic| (k_dflt (refine len_list (by assumption) (by rw [List.size_toArray]; simp only [List.filter, List.length, Option.isSome] at *; omega) ?_)))
local macro_rules | `(tactic| walk_at "call ref") => `(tactic| ((with_reducible show wpAny _ _ (call (Value.ref 73) [Value.str _ _] _) _ _ _); (rename Fr _ _ _ _ => lF'); (rename News _ _ _ _ => lN'); k_dflt (refine' rb_c ?a ?b ?c ?d ?e ?_; (case a => exact ext_in (by assumption) (fr_ext lF')); (case b => exact ext_read (by assumption) (fr_ext lF')); (case c => (first | omega | (dsimp only [Around.deeper]; omega))); (case d => (first | omega | (dsimp only [Around.deeper]; omega))); (case e => exact Told.bounds (by assumption))); intro D' h' tk' t1' t2' t3' t4' p' x' lD' g'; (have F' := Fr.keeps lF' x'); (obtain ⟨N', l1⟩ := news_new lF' lN' x' lD' g'); clear lF' lN' x' lD' g'; (try simp only [iv] at N'); (try k_lt l1)))
local macro_rules | `(tactic| walk_at "call ref") => `(tactic| ((with_reducible show wpAny _ _ (call (Value.ref 48) [Value.str _ _] _) _ _ _); (rename Fr _ _ _ _ => lF'); (rename News _ _ _ _ => lN'); k_dflt (refine' ac_c ?a ?b ?c ?d ?e ?_; (case a => exact ext_in (by assumption) (fr_ext lF')); (case b => exact ext_read (by assumption) (fr_ext lF')); (case c => omega); (case d => omega); (case e => assumption)); intro h' tk' t' p' x'; (have F' := Fr.keeps lF' x'); (have N' := News.grown lN' x'); clear lF' lN' x'))
theorem ne_self {prog : Program} {w : World} {A : Around} {E : Value → Shared → Prop} {s : Shared} {y : Str} {t t' : Tok} {Q : Value → Shared → Prop} (h : Q (.bool false) s) : wpAny (model prog w) A (compareOp .NotEq (.str y t) (.str y t')) Q E s :=
  ne_str (by rw [bne_self_eq_false]; exact h)
local macro_rules | `(tactic| walk_at "compareOp NotEq str str") => `(tactic| (with_reducible refine ne_self ?_))
theorem law_9 : ∀ {w : World} {mg mb : Str → Option Value} {d u : Nat} {fr : Option (List Env)} {gd : Option (List Code)} {s : Shared} {Q : Flow → Shared → Prop} {E : Value → Shared → Prop} {h₀ : Heap} {L fa : Addr} {cd : Value} {m : Str → Option Value} {tx : Tok} {news : List (Addr × Obj)} {txt y : Str} {o1 o2 o3 o4 : Option Int} {q : Nat}
    (X : (Mine.hd.heap_39 w.params).In h₀) (T : TopRead Mine.hd.view_39 LO mg mb h₀) (hd : d + 100 < recursionLimit) (hu : u + 1000 < cLine)
    (F : Fr h₀ L s.heap (fun y => if y = Str.ofString "text" then some (.str txt tx) else m y))
    (N : News h₀ L s.heap news) (K : Told txt y o1 o2 o3 o4 q)
    (ret : ∀ h' tk tw, Fr h₀ L h' (fun z => if z = Str.ofString "whole" then some (.str y tw) else if z = Str.ofString "text" then some (.str txt tx) else m z) → News h₀ L h' news → Q .next { s with heap := h', toks := tk }),
    wpAny (model PySem.Challenge.rw_ez0208_01.row.prog w) ⟨none, d, fr, gd, u⟩ (execs ((lawBody.drop 8).take 1) (envOfC (Str.ofString "law") lawScope L fa cd)) Q E s := by
  k_fill
  intro w mg mb d u fr gd s Q E h₀ L fa cd m tx news txt y o1 o2 o3 o4 q X T hd hu F N K ret
  have eS : lawScope = lawScope := rfl
  conv at eS => rhs; whnf
  rw [eS]
  conv => arg 3; arg 1; whnf
  (try simp only [List.take_succ_cons, List.take_zero])
  clear eS
  k_steps
  all_goals (
    (with_reducible rename Fr _ _ _ _ => F9)
    (with_reducible rename News _ _ _ _ => N9)
    exact ret _ _ _ F9 N9)
local macro_rules | `(tactic| walk_at "execs cons") => `(tactic| (k_here; (refine gen_pos (by omega) ?_); intro tk' tp'; (with_reducible refine wpAny_execs_cons ?_); try dsimp only))
theorem law_100 : ∀ {w : World} {mg mb : Str → Option Value} {d u : Nat} {fr : Option (List Env)} {gd : Option (List Code)} {s : Shared} {Q : Flow → Shared → Prop} {E : Value → Shared → Prop} {h₀ : Heap} {L fa D st sl : Addr} {cd : Value} {m : Str → Option Value} {ws : List Value} {i x : Int} {n : Nat} {t1 t2 tw tk0 t5 t6 t7 t8 : Tok} {c1 c2 c3 c4 : Obj} {y : Str} {l tp r b : Int}
    (X : (Mine.hd.heap_39 w.params).In h₀) (T : TopRead Mine.hd.view_39 LO mg mb h₀) (hd : d + 100 < recursionLimit) (hu : u + 1000 < cLine)
    (F : Fr h₀ L s.heap (fun z => if z = Str.ofString "whole" then some (.str y tw) else if z = Str.ofString "due" then some (.ref D) else if z = Str.ofString "kind" then some (.int 0 tk0) else m z))
    (N : News h₀ L s.heap [(D, tupObj [.int l t5, .int tp t6, .int l t7, .int tp t8]), (st, stObj sl i x t1 t2 n), (sl, listOf ws.toArray 0), (L + 1 + 1 + 1 + 1, c4), (L + 1 + 1 + 1, c3), (L + 1 + 1, c2), (L + 1, c1)])
    (K : Told y y (some l) (some tp) (some l) (some tp) 2) (hy : y.length ≤ 100)
    (ret : ∀ h' tk, Fr h₀ L h' (fun z => if z = Str.ofString "whole" then some (.str y tw) else if z = Str.ofString "due" then some (.ref D) else if z = Str.ofString "kind" then some (.int 0 tk0) else m z) → News h₀ L h' [(D, tupObj [.int l t5, .int tp t6, .int l t7, .int tp t8]), (st, stObj sl i x t1 t2 n), (sl, listOf ws.toArray 0), (L + 1 + 1 + 1 + 1, c4), (L + 1 + 1 + 1, c3), (L + 1 + 1, c2), (L + 1, c1)] → Q .next { s with heap := h', toks := tk }),
    wpAny (model PySem.Challenge.rw_ez0208_01.row.prog w) ⟨none, d, fr, gd, u⟩ (execs ((lawBody.drop 9).take 1) (envOfC (Str.ofString "law") lawScope L fa cd)) Q E s := by
  k_fill
  intro w mg mb d u fr gd s Q E h₀ L fa D st sl cd m ws i x n t1 t2 tw tk0 t5 t6 t7 t8 c1 c2 c3 c4 y l tp r b X T hd hu F N K hy ret
  have eS : lawScope = lawScope := rfl
  conv at eS => rhs; whnf
  rw [eS]
  conv => arg 3; arg 1; whnf
  (try simp only [List.take_succ_cons, List.take_zero])
  clear eS
  k_steps
  all_goals (
    (with_reducible rename Fr _ _ _ _ => F9)
    (with_reducible rename News _ _ _ _ => N9)
    first
      | exact ret _ _ F9 (news_sub N9 (by k_subL))
      | (exfalso
         (with_reducible rename _ = List.length (List.filter _ _) => hn9)
         (with_reducible rename Txt.count _ _ ≠ _ => a9)
         apply a9
         rw [count_d, K.cnt, List.size_toArray, hn9]
         show ((2 : Nat) : Int) = ((4 : Nat) : Int).fdiv 2
         decide))
theorem law_101 : ∀ {w : World} {mg mb : Str → Option Value} {d u : Nat} {fr : Option (List Env)} {gd : Option (List Code)} {s : Shared} {Q : Flow → Shared → Prop} {E : Value → Shared → Prop} {h₀ : Heap} {L fa D st sl : Addr} {cd : Value} {m : Str → Option Value} {ws : List Value} {i x : Int} {n : Nat} {t1 t2 tw tk0 t5 t6 t7 t8 : Tok} {c1 c2 c3 c4 : Obj} {y : Str} {l tp r b : Int}
    (X : (Mine.hd.heap_39 w.params).In h₀) (T : TopRead Mine.hd.view_39 LO mg mb h₀) (hd : d + 100 < recursionLimit) (hu : u + 1000 < cLine)
    (F : Fr h₀ L s.heap (fun z => if z = Str.ofString "whole" then some (.str y tw) else if z = Str.ofString "due" then some (.ref D) else if z = Str.ofString "kind" then some (.int 1 tk0) else m z))
    (N : News h₀ L s.heap [(D, tupObj [.int l t5, .int tp t6, .int r t7, .int b t8]), (st, stObj sl i x t1 t2 n), (sl, listOf ws.toArray 0), (L + 1 + 1 + 1 + 1, c4), (L + 1 + 1 + 1, c3), (L + 1 + 1, c2), (L + 1, c1)])
    (K : Told y y (some l) (some tp) (some r) (some b) 4) (hy : y.length ≤ 100)
    (ret : ∀ h' tk, Fr h₀ L h' (fun z => if z = Str.ofString "whole" then some (.str y tw) else if z = Str.ofString "due" then some (.ref D) else if z = Str.ofString "kind" then some (.int 1 tk0) else m z) → News h₀ L h' [(D, tupObj [.int l t5, .int tp t6, .int r t7, .int b t8]), (st, stObj sl i x t1 t2 n), (sl, listOf ws.toArray 0), (L + 1 + 1 + 1 + 1, c4), (L + 1 + 1 + 1, c3), (L + 1 + 1, c2), (L + 1, c1)] → Q .next { s with heap := h', toks := tk }),
    wpAny (model PySem.Challenge.rw_ez0208_01.row.prog w) ⟨none, d, fr, gd, u⟩ (execs ((lawBody.drop 9).take 1) (envOfC (Str.ofString "law") lawScope L fa cd)) Q E s := by
  k_fill
  intro w mg mb d u fr gd s Q E h₀ L fa D st sl cd m ws i x n t1 t2 tw tk0 t5 t6 t7 t8 c1 c2 c3 c4 y l tp r b X T hd hu F N K hy ret
  have eS : lawScope = lawScope := rfl
  conv at eS => rhs; whnf
  rw [eS]
  conv => arg 3; arg 1; whnf
  (try simp only [List.take_succ_cons, List.take_zero])
  clear eS
  k_steps
  all_goals (
    (with_reducible rename Fr _ _ _ _ => F9)
    (with_reducible rename News _ _ _ _ => N9)
    first
      | exact ret _ _ F9 (news_sub N9 (by k_subL))
      | (exfalso
         (with_reducible rename _ = List.length (List.filter _ _) => hn9)
         (with_reducible rename Txt.count _ _ ≠ _ => a9)
         apply a9
         rw [count_d, K.cnt, List.size_toArray, hn9]
         show ((4 : Nat) : Int) = ((4 : Nat) : Int).fdiv 1
         decide))
theorem law_102 : ∀ {w : World} {mg mb : Str → Option Value} {d u : Nat} {fr : Option (List Env)} {gd : Option (List Code)} {s : Shared} {Q : Flow → Shared → Prop} {E : Value → Shared → Prop} {h₀ : Heap} {L fa D st sl : Addr} {cd : Value} {m : Str → Option Value} {ws : List Value} {i x : Int} {n : Nat} {t1 t2 tw tk0 t5 t6 t7 t8 : Tok} {c1 c2 c3 c4 : Obj} {y : Str} {l tp r b : Int}
    (X : (Mine.hd.heap_39 w.params).In h₀) (T : TopRead Mine.hd.view_39 LO mg mb h₀) (hd : d + 100 < recursionLimit) (hu : u + 1000 < cLine)
    (F : Fr h₀ L s.heap (fun z => if z = Str.ofString "whole" then some (.str y tw) else if z = Str.ofString "due" then some (.ref D) else if z = Str.ofString "kind" then some (.int 2 tk0) else m z))
    (N : News h₀ L s.heap [(D, tupObj [.int l t5, .none, .int r t7, .none]), (st, stObj sl i x t1 t2 n), (sl, listOf ws.toArray 0), (L + 1 + 1 + 1 + 1, c4), (L + 1 + 1 + 1, c3), (L + 1 + 1, c2), (L + 1, c1)])
    (K : Told y y (some l) none (some r) none 2) (hy : y.length ≤ 100)
    (ret : ∀ h' tk, Fr h₀ L h' (fun z => if z = Str.ofString "whole" then some (.str y tw) else if z = Str.ofString "due" then some (.ref D) else if z = Str.ofString "kind" then some (.int 2 tk0) else m z) → News h₀ L h' [(D, tupObj [.int l t5, .none, .int r t7, .none]), (st, stObj sl i x t1 t2 n), (sl, listOf ws.toArray 0), (L + 1 + 1 + 1 + 1, c4), (L + 1 + 1 + 1, c3), (L + 1 + 1, c2), (L + 1, c1)] → Q .next { s with heap := h', toks := tk }),
    wpAny (model PySem.Challenge.rw_ez0208_01.row.prog w) ⟨none, d, fr, gd, u⟩ (execs ((lawBody.drop 9).take 1) (envOfC (Str.ofString "law") lawScope L fa cd)) Q E s := by
  k_fill
  intro w mg mb d u fr gd s Q E h₀ L fa D st sl cd m ws i x n t1 t2 tw tk0 t5 t6 t7 t8 c1 c2 c3 c4 y l tp r b X T hd hu F N K hy ret
  have eS : lawScope = lawScope := rfl
  conv at eS => rhs; whnf
  rw [eS]
  conv => arg 3; arg 1; whnf
  (try simp only [List.take_succ_cons, List.take_zero])
  clear eS
  k_steps
  all_goals (
    (with_reducible rename Fr _ _ _ _ => F9)
    (with_reducible rename News _ _ _ _ => N9)
    first
      | exact ret _ _ F9 (news_sub N9 (by k_subL))
      | (exfalso
         (with_reducible rename _ = List.length (List.filter _ _) => hn9)
         (with_reducible rename Txt.count _ _ ≠ _ => a9)
         apply a9
         rw [count_d, K.cnt, List.size_toArray, hn9]
         show ((2 : Nat) : Int) = ((2 : Nat) : Int).fdiv 1
         decide))
theorem law_103 : ∀ {w : World} {mg mb : Str → Option Value} {d u : Nat} {fr : Option (List Env)} {gd : Option (List Code)} {s : Shared} {Q : Flow → Shared → Prop} {E : Value → Shared → Prop} {h₀ : Heap} {L fa D st sl : Addr} {cd : Value} {m : Str → Option Value} {ws : List Value} {i x : Int} {n : Nat} {t1 t2 tw tk0 t5 t6 t7 t8 : Tok} {c1 c2 c3 c4 : Obj} {y : Str} {l tp r b : Int}
    (X : (Mine.hd.heap_39 w.params).In h₀) (T : TopRead Mine.hd.view_39 LO mg mb h₀) (hd : d + 100 < recursionLimit) (hu : u + 1000 < cLine)
    (F : Fr h₀ L s.heap (fun z => if z = Str.ofString "whole" then some (.str y tw) else if z = Str.ofString "due" then some (.ref D) else if z = Str.ofString "kind" then some (.int 3 tk0) else m z))
    (N : News h₀ L s.heap [(D, tupObj [.none, .int tp t6, .none, .int b t8]), (st, stObj sl i x t1 t2 n), (sl, listOf ws.toArray 0), (L + 1 + 1 + 1 + 1, c4), (L + 1 + 1 + 1, c3), (L + 1 + 1, c2), (L + 1, c1)])
    (K : Told y y none (some tp) none (some b) 2) (hy : y.length ≤ 100)
    (ret : ∀ h' tk, Fr h₀ L h' (fun z => if z = Str.ofString "whole" then some (.str y tw) else if z = Str.ofString "due" then some (.ref D) else if z = Str.ofString "kind" then some (.int 3 tk0) else m z) → News h₀ L h' [(D, tupObj [.none, .int tp t6, .none, .int b t8]), (st, stObj sl i x t1 t2 n), (sl, listOf ws.toArray 0), (L + 1 + 1 + 1 + 1, c4), (L + 1 + 1 + 1, c3), (L + 1 + 1, c2), (L + 1, c1)] → Q .next { s with heap := h', toks := tk }),
    wpAny (model PySem.Challenge.rw_ez0208_01.row.prog w) ⟨none, d, fr, gd, u⟩ (execs ((lawBody.drop 9).take 1) (envOfC (Str.ofString "law") lawScope L fa cd)) Q E s := by
  k_fill
  intro w mg mb d u fr gd s Q E h₀ L fa D st sl cd m ws i x n t1 t2 tw tk0 t5 t6 t7 t8 c1 c2 c3 c4 y l tp r b X T hd hu F N K hy ret
  have eS : lawScope = lawScope := rfl
  conv at eS => rhs; whnf
  rw [eS]
  conv => arg 3; arg 1; whnf
  (try simp only [List.take_succ_cons, List.take_zero])
  clear eS
  k_steps
  all_goals (
    (with_reducible rename Fr _ _ _ _ => F9)
    (with_reducible rename News _ _ _ _ => N9)
    first
      | exact ret _ _ F9 (news_sub N9 (by k_subL))
      | (exfalso
         (with_reducible rename _ = List.length (List.filter _ _) => hn9)
         (with_reducible rename Txt.count _ _ ≠ _ => a9)
         apply a9
         rw [count_d, K.cnt, List.size_toArray, hn9]
         show ((2 : Nat) : Int) = ((2 : Nat) : Int).fdiv 1
         decide))
end Mine
end
section
open PySem PySem.W PySem.Calls PySem.Spec PyProof.Rows
set_option Elab.async false
set_option maxRecDepth 100000
set_option maxHeartbeats 4000000
set_option linter.unusedVariables false
set_option linter.unusedSimpArgs false
namespace Mine
theorem fillK13 : PySem.Challenge.rw_ez0208_01 = PySem.Challenge.rw_ez0208_01 → (∀ P, Mine.hd.heap_39 P = Mine.hd.heap_39 P) := by k_fill; intros; rfl
theorem subL3 {prog : Program} {w : World} {A : Around} {E : Value → Shared → Prop} {s : Shared} {h₀ : Heap} {L : Addr} {news : List (Addr × Obj)} {value slice : PySem.Expr} {D : Addr} {k : Int} {t1 t2 t3 u : Tok} {a b c : Str} {n : Nat} {Q : Value → Shared → Prop} (N : News h₀ L s.heap news) (hm : (D, listOf #[.str a t1, .str b t2, .str c t3] n) ∈ news) (h0 : 0 ≤ k) (h1 : k < 3) (ha : Lacks a) (hb : Lacks b) (hc : Lacks c)
    (h : ∀ v t, Lacks v → Q (.str v t) s)
    (hs : subscripted slice false (.ref D) (.int k u) = operate [.ref D, .int k u] (getItem (.ref D) (.int k u)) := by with_unfolding_all rfl) :
    wpAny (model prog w) A (subscriptTail value slice (.ref D) (.int k u)) Q E s := by
  refine KTb.item_list (vs := [.str a t1, .str b t2, .str c t3]) (ws := [a, b, c]) ⟨_, (N _ hm).1, rfl, _, rfl⟩ (.cons _ _ (.cons _ _ (.cons _ _ .nil))) h0 (by simpa using h1) (by omega) (fun t _ => ?_) hs
  refine h _ t ?_
  have hk : k = 0 ∨ k = 1 ∨ k = 2 := by omega
  rcases hk with rfl | rfl | rfl
  · exact ha
  · exact hb
  · exact hc
local macro_rules | `(tactic| walk_at "call ref") => `(tactic| ((with_reducible show wpAny _ _ (call (Value.ref 106) [Value.ref _, Value.int _ _] _) _ _ _); (rename Fr _ _ _ _ => lF'); (rename News _ _ _ _ => lN'); k_dflt (refine draw_c (by assumption) (by assumption) lF' lN' (by k_updF) (by first | omega | (dsimp only [Around.deeper]; omega)) (by first | omega | (dsimp only [Around.deeper]; omega)) (by assumption) (isL_of lN' (by k_mem)) (by assumption) (by assumption) (by assumption) (by assumption) (by assumption) (by assumption) (by assumption) (by decide) (by decide) ?_); intro h' tk' t' r' i' x' t1' t2' n' F' N' hl' b1 b2 b3 b4 b5 b6; clear lF' lN' hl'; (try dsimp only at N')))
local macro_rules | `(tactic| walk_at "call ref") => `(tactic| ((with_reducible show wpAny _ _ (call (Value.ref 120) [Value.ref _, _, _] _) _ _ _); (rename Fr _ _ _ _ => lF'); (rename News _ _ _ _ => lN'); k_dflt (first
  | refine plr (by assumption) (by assumption) lF' lN' (by k_updF) (by first | omega | (dsimp only [Around.deeper]; omega)) (by first | omega | (dsimp only [Around.deeper]; omega)) (by assumption) (isL_of lN' (by k_mem)) (by assumption) (by assumption) (by assumption) (by assumption) (by assumption) (by assumption) (by assumption) (by assumption) (by assumption) (by assumption) ?_
  | refine pl (by assumption) (by assumption) lF' lN' (by k_updF) (by first | omega | (dsimp only [Around.deeper]; omega)) (by first | omega | (dsimp only [Around.deeper]; omega)) (by assumption) (isL_of lN' (by k_mem)) (by assumption) (by assumption) (by assumption) (by assumption) (by assumption) (by assumption) (by assumption) (by assumption) ?_
  | refine pr (by assumption) (by assumption) lF' lN' (by k_updF) (by first | omega | (dsimp only [Around.deeper]; omega)) (by first | omega | (dsimp only [Around.deeper]; omega)) (by assumption) (isL_of lN' (by k_mem)) (by assumption) (by assumption) (by assumption) (by assumption) (by assumption) (by assumption) (by assumption) (by assumption) (by assumption) ?_); intro h' tk' t' y' i' x' t1' t2' n' F' N' b1 b2 b3 b4 hp' hl'; clear lF' lN'; (try dsimp only at N')))
local macro_rules | `(tactic| kt_len) => `(tactic| (with_reducible assumption))
local macro_rules | `(tactic| walk_at "subscriptTail") => `(tactic| ((with_reducible show wpAny _ _ (subscriptTail _ _ (Value.ref _) (Value.int _ _)) _ _ _); k_dflt (refine subL3 (by k_asm) (by k_mem) (by omega) (by omega) (lack_1 (by assumption) (by assumption) (by assumption) (by assumption) (by assumption) (by assumption)) (lack_2 (by assumption) (by assumption) (by assumption) (by assumption) (by assumption) (by assumption) (by assumption)) (lack_3 (by assumption) (by assumption) (by assumption) (by assumption) (by assumption)) ?_); intro v' t' hv'))
local macro_rules | `(tactic| walk_at "call ref") => `(tactic| ((with_reducible show wpAny _ _ (call (Value.ref 127) [Value.ref 73, Value.str _ _] _) _ _ _); (rename Fr _ _ _ _ => lF'); (rename News _ _ _ _ => lN'); k_dflt (refine refused_rb (ext_in (by assumption) (fr_ext lF')) (ext_read (by assumption) (fr_ext lF')) (by assumption) (by assumption) (below_law lF' rfl) (kts_law lF') (by omega) (by omega) (by assumption) ?_); intro h' tk' hk' up'; (obtain ⟨F', N'⟩ := fr_turn lF' lN' hk' up'); clear lF' lN' hk' up'))
local macro_rules | `(tactic| walk_at "execs cons") => `(tactic| (k_here; (refine gen_pos (by omega) ?_); intro tk' tp'; (with_reducible refine wpAny_execs_cons ?_); try dsimp only))
theorem law_12 : ∀ {w : World} {mg mb : Str → Option Value} {mean : ExcName → Option Value} {p9 : Program} {lo9 : List Str} {d u : Nat} {gd : Option (List Code)} {s : Shared} {Q : Flow → Shared → Prop} {E : Value → Shared → Prop} {h₀ : Heap} {L fa st sl : Addr} {cd : Value} {m : Str → Option Value} {ws : List Value} {ns : List Int} {i x l tp r b : Int} {n : Nat} {t1 t2 tb tt tl tr : Tok} {c1 c2 c3 c4 : Obj}
    (X : (Mine.hd.heap_39 w.params).In h₀) (T : TopRead Mine.hd.view_39 LO mg mb h₀) (TB : Top p9 lo9 mean mg mb h₀) (hd : d + 100 < recursionLimit) (hu : u + 1000 < cLine)
    (F : Fr h₀ L s.heap (fun y => if y = Str.ofString "bottom" then some (.int b tb) else if y = Str.ofString "top" then some (.int tp tt) else m y))
    (N : News h₀ L s.heap [(st, stObj sl i x t1 t2 n), (sl, listOf ws.toArray 0), (L + 1 + 1 + 1 + 1, c4), (L + 1 + 1 + 1, c3), (L + 1 + 1, c2), (L + 1, c1)])
    (d1 : c1.data = .cell (some (.ref st))) (d2 : c2.data = .cell (some (.int l tl))) (d3 : c3.data = .cell (some (.int r tr))) (hst : 133 ≤ st) (hne : sl ≠ st) (hi : IntsAre ws ns) (hn : ns.length ≤ 63)
    (i1 : 0 ≤ i) (i2 : i ≤ 63) (i3 : 0 ≤ x) (i4 : x < 2147483647) (hcl : IsC l) (hcr : IsC r) (hb1 : 1 ≤ tp) (hb2 : tp ≤ 15) (hb3 : 1 ≤ b) (hb4 : b ≤ 15) (hc : @LT.lt Nat _ (L + 1 + 1 + 1 + 1) sl) (hc2 : @LT.lt Nat _ sl st)
    (ret : ∀ h' tk, (∀ a o, h₀.get? a = some o → h'.get? a = some o) → Q (.ret (.bool true)) { s with heap := h', toks := tk }),
    wpAny (model PySem.Challenge.rw_ez0208_01.row.prog w) ⟨none, d, some [envOfC (Str.ofString "law") lawScope L fa cd], gd, u⟩ (execs (lawBody.drop 11) (envOfC (Str.ofString "law") lawScope L fa cd)) Q E s := by
  k_fill
  intro w mg mb mean p9 lo9 d u gd s Q E h₀ L fa st sl cd m ws ns i x l tp r b n t1 t2 tb tt tl tr c1 c2 c3 c4 X T TB hd hu F N d1 d2 d3 hst hne hi hn i1 i2 i3 i4 hcl hcr hb1 hb2 hb3 hb4 hc hc2 ret
  have eS : lawScope = lawScope := rfl
  conv at eS => rhs; whnf
  rw [eS]
  conv => arg 3; arg 1; whnf
  (try simp only [List.take_succ_cons, List.take_zero])
  clear eS
  k_steps
  all_goals (
    (with_reducible rename Fr _ _ _ _ => F9)
    exact ret _ _ fun a o e => F9.keep a o e)
end Mine
end
section
local macro_rules | `(tactic| walk_at "mine pad 0") => `(tactic| skip)
local macro_rules | `(tactic| walk_at "mine pad 1") => `(tactic| skip)
local macro_rules | `(tactic| walk_at "mine pad 2") => `(tactic| skip)
local macro_rules | `(tactic| walk_at "mine pad 3") => `(tactic| skip)
local macro_rules | `(tactic| walk_at "mine pad 4") => `(tactic| skip)
local macro_rules | `(tactic| walk_at "mine pad 5") => `(tactic| skip)
local macro_rules | `(tactic| walk_at "mine pad 6") => `(tactic| skip)
local macro_rules | `(tactic| walk_at "mine pad 7") => `(tactic| skip)
local macro_rules | `(tactic| walk_at "mine pad 8") => `(tactic| skip)
local macro_rules | `(tactic| walk_at "mine pad 9") => `(tactic| skip)
local macro_rules | `(tactic| walk_at "mine pad 10") => `(tactic| skip)
local macro_rules | `(tactic| walk_at "mine pad 11") => `(tactic| skip)
local macro_rules | `(tactic| walk_at "mine pad 12") => `(tactic| skip)
local macro_rules | `(tactic| walk_at "mine pad 13") => `(tactic| skip)
open PySem PySem.W PySem.Calls PySem.Spec PyProof.Rows
set_option Elab.async false
set_option maxRecDepth 100000
set_option maxHeartbeats 4000000
set_option linter.unusedVariables false
set_option linter.unusedSimpArgs false
namespace Mine
theorem fillK14 : PySem.Challenge.rw_ez0208_01 = PySem.Challenge.rw_ez0208_01 → (∀ P, Mine.hd.heap_39 P = Mine.hd.heap_39 P) := by k_fill; intros; rfl
theorem execs_then {M : Model} {A : Around} {E : Value → Shared → Prop} {s : Shared} {env : Env} {Q : Flow → Shared → Prop} (i n : Nat) (l : List Stmt) (h : wpAny M A (execs ((l.drop i).take n) env) (fun f s' => f = .next ∧ wpAny M A (execs (l.drop (i + n)) env) Q E s') E s) :
    wpAny M A (execs (l.drop i) env) Q E s :=
  execs_cut n (l.drop i) h fun s' x => by rw [List.drop_drop]; exact x
/-- `if kind < 2` does nothing for the kinds 2 and 3 -/
theorem law_11n : ∀ {w : World} {mg mb : Str → Option Value} {d u : Nat} {fr : Option (List Env)} {gd : Option (List Code)} {s : Shared} {Q : Flow → Shared → Prop} {E : Value → Shared → Prop} {h₀ : Heap} {L fa : Addr} {cd : Value} {m : Str → Option Value} {news : List (Addr × Obj)} {tk0 : Tok} {k : Int}
    (X : (Mine.hd.heap_39 w.params).In h₀) (T : TopRead Mine.hd.view_39 LO mg mb h₀)
    (F : Fr h₀ L s.heap (fun y => if y = Str.ofString "kind" then some (.int k tk0) else m y)) (N : News h₀ L s.heap news) (hk : 2 ≤ k)
    (ret : ∀ tk, Q .next { s with toks := tk }),
    wpAny (model PySem.Challenge.rw_ez0208_01.row.prog w) ⟨none, d, fr, gd, u⟩ (execs ((lawBody.drop 10).take 1) (envOfC (Str.ofString "law") lawScope L fa cd)) Q E s := by
  k_fill
  intro w mg mb d u fr gd s Q E h₀ L fa cd m news tk0 k X T F N hk ret
  have eS : lawScope = lawScope := rfl
  conv at eS => rhs; whnf
  rw [eS]
  conv => arg 3; arg 1; whnf
  (try simp only [List.take_succ_cons, List.take_zero])
  clear eS
  k_steps
  all_goals first
    | exact ret _
    | (exfalso; omega)
    | skip
  all_goals trace_state
end Mine
end
section
open PySem PySem.W PySem.Calls PySem.Spec PyProof.Rows
set_option Elab.async false
set_option maxRecDepth 100000
set_option maxHeartbeats 4000000
set_option linter.unusedVariables false
set_option linter.unusedSimpArgs false
namespace Mine
/-- the law's eleventh statement for the kinds 0 and 1: the places row by row and column by column -/
def Law11 : Prop := ∀ {w : World} {mg mb : Str → Option Value} {mean : ExcName → Option Value} {d u : Nat} {gd : Option (List Code)} {s : Shared} {Q : Flow → Shared → Prop} {E : Value → Shared → Prop} {h₀ : Heap} {L fa D st sl : Addr} {oD : Obj} {cd : Value} {m : Str → Option Value} {ws : List Value} {i x k l tp r b : Int} {n q : Nat} {t1 t2 tb tt tx tk0 tl tr : Tok} {txt y : Str} {c1 c2 c3 c4 : Obj}
    (X : (Mine.hd.heap_39 w.params).In h₀) (T : Top Mine.hd.view_39 LO mean mg mb h₀) (hd : d + 100 < recursionLimit) (hu : u + 1000 < cLine)
    (F : Fr h₀ L s.heap (fun z => if z = Str.ofString "bottom" then some (.int b tb) else if z = Str.ofString "top" then some (.int tp tt) else if z = Str.ofString "text" then some (.str txt tx) else if z = Str.ofString "kind" then some (.int k tk0) else m z))
    (N : News h₀ L s.heap [(D, oD), (st, stObj sl i x t1 t2 n), (sl, listOf ws.toArray 0), (L + 1 + 1 + 1 + 1, c4), (L + 1 + 1 + 1, c3), (L + 1 + 1, c2), (L + 1, c1)])
    (d2 : c2.data = .cell (some (.int l tl))) (d3 : c3.data = .cell (some (.int r tr))) (d4 : c4.data = .cell none) (hg : s.gens = #[]) (hst : @LT.lt Nat _ (L + 1 + 1 + 1 + 1) sl) (hst2 : @LT.lt Nat _ sl st) (hst3 : @LT.lt Nat _ st D) (hL : @LE.le Nat _ 128 L)
    (K : Told txt y (some l) (some tp) (some r) (some b) q) (hk0 : 0 ≤ k) (hk : k < 2) (hl3 : l = 1 ∨ l = 26 ∨ l = 701) (q1 : l ≤ r) (q2 : r < l + 4) (hb1 : 1 ≤ tp) (q3 : tp ≤ b) (q4 : b < tp + 4) (hb4 : b ≤ 15)
    (ret : ∀ h₁ h' tk gs c4' p9 lo9, (Mine.hd.heap_39 w.params).In h₁ → TopRead Mine.hd.view_39 LO mg mb h₁ → Top p9 lo9 mean mg mb h₁ → OldK h₀ h₁ → @LE.le Nat _ h₁.objs.size L →
      Fr h₁ L h' (fun z => if z = Str.ofString "bottom" then some (.int b tb) else if z = Str.ofString "top" then some (.int tp tt) else if z = Str.ofString "text" then some (.str txt tx) else if z = Str.ofString "kind" then some (.int k tk0) else m z) →
      News h₁ L h' [(st, stObj sl i x t1 t2 n), (sl, listOf ws.toArray 0), (L + 1 + 1 + 1 + 1, c4'), (L + 1 + 1 + 1, c3), (L + 1 + 1, c2), (L + 1, c1)] → AllBare gs → Q .next { s with heap := h', toks := tk, gens := gs }),
    wpAny (model PySem.Challenge.rw_ez0208_01.row.prog w) ⟨none, d, some [envOfC (Str.ofString "law") lawScope L fa cd], gd, u⟩ (execs ((lawBody.drop 10).take 1) (envOfC (Str.ofString "law") lawScope L fa cd)) Q E s
theorem pin1 {m : Str → Option Value} {a : Str} {v : Value} (e : m a = some v) : (fun y => if y = a then some v else m y) = m := by
  funext y
  by_cases hy : y = a
  · rw [if_pos hy, hy, e]
  · rw [if_neg hy]
theorem pin2 {m : Str → Option Value} {a b : Str} {v u : Value} (e : m a = some v) (e2 : m b = some u) : (fun y => if y = a then some v else if y = b then some u else m y) = m := by
  have h := pin1 e2
  have h2 := pin1 e
  funext y
  by_cases hy : y = a
  · rw [if_pos hy, hy, e]
  · rw [if_neg hy]; exact congrFun h y
theorem pin3 {m : Str → Option Value} {a b c : Str} {v u z : Value} (e : m a = some v) (e2 : m b = some u) (e3 : m c = some z) : (fun y => if y = a then some v else if y = b then some u else if y = c then some z else m y) = m := by
  have h := pin2 e2 e3
  funext y
  by_cases hy : y = a
  · rw [if_pos hy, hy, e]
  · rw [if_neg hy]; exact congrFun h y
theorem pin4 {m : Str → Option Value} {a b c d : Str} {v u z x : Value} (e : m a = some v) (e2 : m b = some u) (e3 : m c = some z) (e4 : m d = some x) : (fun y => if y = a then some v else if y = b then some u else if y = c then some z else if y = d then some x else m y) = m := by
  have h := pin3 e2 e3 e4
  funext y
  by_cases hy : y = a
  · rw [if_pos hy, hy, e]
  · rw [if_neg hy]; exact congrFun h y
theorem upd_ne {m : Str → Option Value} {a b : Str} {v : Value} {u : Option Value} (h : b ≠ a) (e : m b = u) : (fun y => if y = a then some v else m y) b = u := by
  show (if b = a then some v else m b) = u
  rw [if_neg h]; exact e
theorem upd_eq {m : Str → Option Value} {a : Str} {v : Value} : (fun y => if y = a then some v else m y) a = some v := if_pos rfl
theorem strOk_dbl {R : Str} {l : List Nat} (hR : R.cps = (Rx.dbl l).toArray) (hc : ∀ c ∈ l, c ∈ cs) : PyData.strOk R = true := by
  unfold PyData.strOk
  rw [hR]
  have key : ∀ l : List Nat, (∀ c ∈ l, c ∈ cs) → ∀ c ∈ Rx.dbl l, c < 0x110000 := by
    intro l
    induction l with
    | nil => intro _ c hc; exact absurd hc (by simp [Rx.dbl])
    | cons a l ih =>
      intro h c hc
      have ha : a < 0x110000 := by
        have := h a (.head _)
        simp only [cs, List.mem_cons, List.not_mem_nil, or_false] at this
        omega
      have ih' := ih fun c' h' => h c' (.tail _ h')
      unfold Rx.dbl at hc
      split at hc <;> simp only [List.mem_cons] at hc
      all_goals (rcases hc with rfl | hc <;> first | exact ha | (try (rcases hc with rfl | hc)) <;> first | exact ha | exact ih' c hc | decide)
  rw [List.all_toArray] 
  exact List.all_eq_true.mpr fun c hc' => by simpa using key l hc c hc'
theorem fr_eqm {h₀ h : Heap} {L : Addr} {m m' : Str → Option Value} (F : Fr h₀ L h m) (e : ∀ z, m z = m' z) : Fr h₀ L h m' := (funext e) ▸ F
theorem if_else {c : Prop} [Decidable c] {a x y : Option Value} (e : x = y) : (if c then a else x) = (if c then a else y) := by rw [e]
theorem isC_of {l c : Int} (hl3 : l = 1 ∨ l = 26 ∨ l = 701) (h1 : l ≤ c) (h2 : c < l + 4) : IsC c := by unfold IsC; omega
theorem law_core (H : Law11) {w : World} {mg mb : Str → Option Value} {mean : ExcName → Option Value} {d u : Nat} {gd : Option (List Code)} {s : Shared} {Q : Flow → Shared → Prop} {E : Value → Shared → Prop} {h₀ : Heap} {L fa sc : Addr} {cd : Value} {vs : List Value} {ns : List Int} {c1 c2 c3 c4 : Obj}
    (X : (Mine.hd.heap_39 w.params).In h₀) (T : Top Mine.hd.view_39 LO mean mg mb h₀) (hd : d + 100 < recursionLimit) (hu : u + 1000 < cLine)
    (F : Fr h₀ L s.heap (bindL (envOfC (Str.ofString "law") lawScope L fa cd).kindOf [(Str.ofString "script", .ref sc)] fun _ => none)) (N : News h₀ L s.heap [(L + 1 + 1 + 1 + 1, c4), (L + 1 + 1 + 1, c3), (L + 1 + 1, c2), (L + 1, c1)])
    (d1 : c1.data = .cell none) (d2 : c2.data = .cell none) (d3 : c3.data = .cell none) (d4 : c4.data = .cell none) (hs : h₀.IsList sc vs.toArray) (hi : IntsAre vs ns) (hn : ns.length ≤ 63) (hg : s.gens = #[]) (hL : @LE.le Nat _ 128 L)
    (ret : ∀ h' tk gs, OldK h₀ h' → AllBare gs → Q (.ret (.bool true)) { s with heap := h', toks := tk, gens := gs }) :
    wpAny (model PySem.Challenge.rw_ez0208_01.row.prog w) ⟨none, d, some [envOfC (Str.ofString "law") lawScope L fa cd], gd, u⟩ (execs lawBody (envOfC (Str.ofString "law") lawScope L fa cd)) Q E s := by
  have TR := topRead_of T
  refine execs_then 0 1 lawBody (law_1 X TR hd hu F N d1 d2 d3 d4 hs hi hn ?_)
  intro h1 tk1 st sl ws t1 t2 n c1' hi1 hl1 hl2 d1' F1 N1
  refine ⟨rfl, ?_⟩
  have hst : @LE.le Nat _ 133 st := by
    have a1 : @LT.lt Nat _ (L + 4) sl := hl1
    have a2 : @LT.lt Nat _ sl st := hl2
    have a3 : @LE.le Nat _ 128 L := hL
    clear N1 F1 N F
    omega
  have hne : sl ≠ st := Nat.ne_of_lt hl2
  have hn1 : (ns.take 40).length ≤ 63 := by rw [List.length_take]; omega
  refine execs_then 1 2 lawBody (law_2 (s := { s with heap := h1, toks := tk1 }) X TR hd hu F1 N1 d1' d2 d3 hst hne hi1 hn1 (by decide) (by decide) (by decide) (by decide) hl1 hl2 ?_)
  intro h2 tk2 i x t1 t2 n k l e f tp c2' c3' tt tkk tb tl d2' d3' F2 N2 b1 b2 b3 b4 b5 b6 hl3 b7 b8 b9 b10 b11 b12
  refine ⟨rfl, ?_⟩
  obtain ⟨tr, d3'⟩ := d3'
  have hcl : IsC l := isC_of hl3 (Int.le_refl _) (by omega)
  have hcr : IsC (l + e) := isC_of hl3 (by omega) (by omega)
  have p1 : 1 ≤ 1 + tp := by omega
  have p2 : 1 + tp ≤ 15 := by omega
  have p3 : 1 ≤ 1 + tp + f := by omega
  have p4 : 1 + tp + f ≤ 15 := by omega
  have key : After3 w h₀ L st sl ws c1' c2' c4 { s with heap := h2, toks := tk2 } (fun f' s' => f' = .next ∧ wpAny (model PySem.Challenge.rw_ez0208_01.row.prog w) ⟨none, d, some [envOfC (Str.ofString "law") lawScope L fa cd], gd, u⟩ (execs (lawBody.drop (3 + 2)) (envOfC (Str.ofString "law") lawScope L fa cd)) Q E s') k l (1 + tp) := by
    intro h3 tk3 i x t1 t2 n r b tx y os q c3'' tb tt tk0 D s5 s6 s7 s8 txt m' d3'' lD F3 e1 e2 e3 e4 e5 N3 a1 a2 a3 a4 hcr' a5 a6 q1 q2 q3 q4 K
    obtain ⟨tr', d3''⟩ := d3''
    refine ⟨rfl, ?_⟩
    have shape : ∃ o1 o2 o3 o4 t5 t6 t7 t8, tupObj (ivs os [s5, s6, s7, s8]) = tupObj [iv o1 t5, iv o2 t6, iv o3 t7, iv o4 t8] ∧ Told txt y o1 o2 o3 o4 q ∧ os = [o1, o2, o3, o4] := by
      cases K with
      | k0 _ _ _ h => exact ⟨_, _, _, _, _, _, _, _, rfl, h, rfl⟩
      | k1 _ h => exact ⟨_, _, _, _, _, _, _, _, rfl, h, rfl⟩
      | k2 _ h => exact ⟨_, _, _, _, _, _, _, _, rfl, h, rfl⟩
      | k3 _ h => exact ⟨_, _, _, _, _, _, _, _, rfl, h, rfl⟩
    obtain ⟨o1, o2, o3, o4, t5, t6, t7, t8, eT, KT, eos⟩ := shape
    rw [eT] at N3
    refine execs_then 5 1 lawBody (law_4 (s := { s with heap := h3, toks := tk3 }) X TR hd hu F3 N3 d1' hst hne hi1 hn1 a1 a2 a3 a4 hl1 hl2 lD ?_)
    intro h4 tk4 i x t1 t2 n nm tn l1 l4 lc F4 N4 a1 a2 a3 a4
    refine ⟨rfl, ?_⟩
    have ne : ∀ {a b : Str}, a ≠ b → a ≠ b := fun h => h
    have f1 := upd_ne (m := m') (a := Str.ofString "name") (v := .str ⟨nm.toArray⟩ tn) (by decide +kernel) e1
    have f2 := upd_ne (m := m') (a := Str.ofString "name") (v := .str ⟨nm.toArray⟩ tn) (by decide +kernel) e2
    have f3 := upd_ne (m := m') (a := Str.ofString "name") (v := .str ⟨nm.toArray⟩ tn) (by decide +kernel) e3
    have f4 := upd_ne (m := m') (a := Str.ofString "name") (v := .str ⟨nm.toArray⟩ tn) (by decide +kernel) e4
    have f5 := upd_ne (m := m') (a := Str.ofString "name") (v := .str ⟨nm.toArray⟩ tn) (by decide +kernel) e5
    have f6 := upd_eq (m := m') (a := Str.ofString "name") (v := .str ⟨nm.toArray⟩ tn)
    generalize hm4 : (fun y => if y = Str.ofString "name" then some (Value.str ⟨nm.toArray⟩ tn) else m' y) = m4 at F4 f1 f2 f3 f4 f5 f6
    have p7 := pin2 f1 f2
    refine execs_then 6 1 lawBody (law_7 (s := { s with heap := h4, toks := tk4 }) X TR T hd hu (p7 ▸ F4) N4 KT ?_)
    intro h5 tk5 F5 N5
    refine ⟨rfl, ?_⟩
    replace F5 : Fr h₀ L h5 m4 := p7 ▸ F5
    obtain ⟨nf1, nf2, nf3⟩ := name_facts l1 l4 lc
    have szR : (rq nm).cps.size = (Rx.dbl nm).length := by rw [nf1, List.size_toArray]
    have szx := KT.size
    have dpos : 1 ≤ (Rx.dbl nm).length := by
      cases nm with
      | nil => exact absurd l1 (by simp)
      | cons c r => unfold Rx.dbl; split <;> simp
    have eX : (Str.ofString "'" ++ rq nm ++ Str.ofString "'" ++ Str.ofString "!" ++ txt).cps.size ≤ 1000 := by
      rw [cpsA, cpsA, cpsA, cpsA, Array.size_append, Array.size_append, Array.size_append, Array.size_append]
      have z1 : (Str.ofString "'").cps.size = 1 := by decide +kernel
      have z2 : (Str.ofString "!").cps.size = 1 := by decide +kernel
      omega
    obtain ⟨v, fit, g2, g4, g5⟩ := KT.sheet (R := rq nm) l4 nf1 nf3 rfl
    have p8 := pin3 f6 f1 f2
    refine execs_then 7 1 lawBody (law_8 (s := { s with heap := h5, toks := tk5 }) (R := rq nm) X TR hd hu (p8 ▸ F5) N5 KT (by show nm.toArray.size ≤ 10; rw [List.size_toArray]; omega) rfl (by show (rq nm).cps.size ≤ 20; omega) ?_ (strOk_dbl nf1 lc) (by omega) (by omega) (by show txt.cps.size ≤ 100; omega) eX fit g2 g4 g5 ?_)
    · intro q'
      have e9 := nf2 (by have : (⟨nm.toArray⟩ : Str).length = nm.length := by show nm.toArray.size = _; rw [List.size_toArray]
                         rw [this] at q'; exact q')
      show (⟨(rq nm).cps⟩ : Str) = _
      rw [nf1, e9]
    intro h6 tk6 F6 N6
    refine ⟨rfl, ?_⟩
    replace F6 : Fr h₀ L h6 m4 := p8 ▸ F6
    have p9 := pin1 f2
    refine execs_then 8 1 lawBody (law_9 (s := { s with heap := h6, toks := tk6 }) X TR hd hu (p9 ▸ F6) N6 KT ?_)
    intro h7 tk7 tw F7 N7
    refine ⟨rfl, ?_⟩
    replace F7 := fr_eqm F7 (m' := fun z => if z = Str.ofString "whole" then some (Value.str y tw) else m4 z) (fun z => if_else (congrFun p9 z))
    have g1 := upd_ne (m := m4) (a := Str.ofString "whole") (v := .str y tw) (by decide +kernel) f1
    have g2' := upd_ne (m := m4) (a := Str.ofString "whole") (v := .str y tw) (by decide +kernel) f2
    have g3 := upd_ne (m := m4) (a := Str.ofString "whole") (v := .str y tw) (by decide +kernel) f3
    have g4' := upd_ne (m := m4) (a := Str.ofString "whole") (v := .str y tw) (by decide +kernel) f4
    have g5' := upd_ne (m := m4) (a := Str.ofString "whole") (v := .str y tw) (by decide +kernel) f5
    have g6 := upd_eq (m := m4) (a := Str.ofString "whole") (v := .str y tw)
    generalize hm9 : (fun z => if z = Str.ofString "whole" then some (Value.str y tw) else m4 z) = m9 at F7 g1 g2' g3 g4' g5' g6
    have KW := KT.whole
    have szw := KW.size
    have p10 := pin3 g6 g1 g5'
    have p12 := pin2 g3 g4'
    have hw : y.length ≤ 100 := by show y.cps.size ≤ 100; omega
    -- the statements behind the tenth
    have tail2 : ∀ {h' : Heap} {tk : Nat}, 2 ≤ k → Fr h₀ L h' m9 → News h₀ L h' [(D, tupObj [iv o1 t5, iv o2 t6, iv o3 t7, iv o4 t8]), (st, stObj sl i x t1 t2 n), (sl, listOf ws.toArray 0), (L + 1 + 1 + 1 + 1, c4), (L + 1 + 1 + 1, c3''), (L + 1 + 1, c2'), (L + 1, c1')] →
        wpAny (model PySem.Challenge.rw_ez0208_01.row.prog w) ⟨none, d, some [envOfC (Str.ofString "law") lawScope L fa cd], gd, u⟩ (execs (lawBody.drop (9 + 1)) (envOfC (Str.ofString "law") lawScope L fa cd)) Q E { s with heap := h', toks := tk } := by
      intro h' tk hk F' N'
      refine execs_then 10 1 lawBody (law_11n (s := { s with heap := h', toks := tk }) X TR ((pin1 g5') ▸ F') N' hk fun tk' => ⟨rfl, ?_⟩)
      refine law_12 (s := { s with heap := h', toks := tk' }) X TR T hd hu (p12 ▸ F') (news_sub N' (by k_subL)) d1' d2' d3'' hst hne hi1 hn1 a1 a2 a3 a4 hcl hcr' p1 p2 a5 a6 hl1 hl2 fun h'' tk'' kp => ?_
      have := ret h'' tk'' s.gens (OldK.of_keep kp) (AllBare.of_eq hg)
      exact this
    have tail1 : ∀ {h' : Heap} {tk : Nat}, k < 2 → o1 = some l → o2 = some (1 + tp) → o3 = some r → o4 = some b → Fr h₀ L h' m9 → News h₀ L h' [(D, tupObj [iv o1 t5, iv o2 t6, iv o3 t7, iv o4 t8]), (st, stObj sl i x t1 t2 n), (sl, listOf ws.toArray 0), (L + 1 + 1 + 1 + 1, c4), (L + 1 + 1 + 1, c3''), (L + 1 + 1, c2'), (L + 1, c1')] →
        wpAny (model PySem.Challenge.rw_ez0208_01.row.prog w) ⟨none, d, some [envOfC (Str.ofString "law") lawScope L fa cd], gd, u⟩ (execs (lawBody.drop (9 + 1)) (envOfC (Str.ofString "law") lawScope L fa cd)) Q E { s with heap := h', toks := tk } := by
      intro h' tk hk z1 z2 z3 z4 F' N'
      subst z1 z2 z3 z4
      have p11 := pin4 g3 g4' g2' g5'
      refine execs_then 10 1 lawBody (H (s := { s with heap := h', toks := tk }) X T hd hu (p11 ▸ F') N' d2' d3'' d4 hg hl1 hl2 lD hL KT b5 hk hl3 q1 q2 p1 q3 q4 a6 ?_)
      intro h₁ h'' tk'' gs c4' p9' lo9 X₁ T₁ TB₁ O₁ hL₁ F'' N'' hgs
      refine ⟨rfl, ?_⟩
      rw [p11] at F''
      refine law_12 (s := { s with heap := h'', toks := tk'', gens := gs }) X₁ T₁ TB₁ hd hu (p12 ▸ F'') N'' d1' d2' d3'' hst hne hi1 hn1 a1 a2 a3 a4 hcl hcr' p1 p2 a5 a6 hl1 hl2 fun h3 tk3 kp => ?_
      exact ret h3 tk3 gs (O₁.step_keeps kp) hgs
    cases K with
    | k0 ek er eb hT =>
      simp only [List.cons.injEq, and_true] at eos
      obtain ⟨y1, y2, y3, y4⟩ := eos
      subst y1 y2 y3 y4 ek er eb
      exact execs_then 9 1 lawBody (law_100 (r := 0) (b := 0) (m := m9) (s := { s with heap := h7, toks := tk7 }) X TR hd hu (fr_eqm F7 fun z => (congrFun p10 z).symm) N7 KW hw fun h' tk F' N' => ⟨rfl, tail1 (by decide) rfl rfl rfl rfl (fr_eqm F' (congrFun p10)) N'⟩)
    | k1 ek hT =>
      simp only [List.cons.injEq, and_true] at eos
      obtain ⟨y1, y2, y3, y4⟩ := eos
      subst y1 y2 y3 y4 ek
      exact execs_then 9 1 lawBody (law_101 (m := m9) (s := { s with heap := h7, toks := tk7 }) X TR hd hu (fr_eqm F7 fun z => (congrFun p10 z).symm) N7 KW hw fun h' tk F' N' => ⟨rfl, tail1 (by decide) rfl rfl rfl rfl (fr_eqm F' (congrFun p10)) N'⟩)
    | k2 ek hT =>
      simp only [List.cons.injEq, and_true] at eos
      obtain ⟨y1, y2, y3, y4⟩ := eos
      subst y1 y2 y3 y4 ek
      exact execs_then 9 1 lawBody (law_102 (tp := 0) (b := 0) (t6 := 0) (t8 := 0) (m := m9) (s := { s with heap := h7, toks := tk7 }) X TR hd hu (fr_eqm F7 fun z => (congrFun p10 z).symm) N7 KW hw fun h' tk F' N' => ⟨rfl, tail2 (by decide) (fr_eqm F' (congrFun p10)) N'⟩)
    | k3 ek hT =>
      simp only [List.cons.injEq, and_true] at eos
      obtain ⟨y1, y2, y3, y4⟩ := eos
      subst y1 y2 y3 y4 ek
      exact execs_then 9 1 lawBody (law_103 (l := 0) (r := 0) (t5 := 0) (t7 := 0) (m := m9) (s := { s with heap := h7, toks := tk7 }) X TR hd hu (fr_eqm F7 fun z => (congrFun p10 z).symm) N7 KW hw fun h' tk F' N' => ⟨rfl, tail2 (by decide) (fr_eqm F' (congrFun p10)) N'⟩)
  have hk4 : k = 0 ∨ k = 1 ∨ k = 2 ∨ k = 3 := by omega
  rcases hk4 with rfl | rfl | rfl | rfl
  · exact execs_then 3 2 lawBody (law_30 (s := { s with heap := h2, toks := tk2 }) X TR hd hu F2 N2 d1' d2' d3' hst hne hi1 hn1 b1 b2 b3 b4 hcl hcr p1 p2 p3 p4 (by omega) (by omega) (by omega) (by omega) hl1 hl2 key)
  · exact execs_then 3 2 lawBody (law_31 (s := { s with heap := h2, toks := tk2 }) X TR hd hu F2 N2 d1' d2' d3' hst hne hi1 hn1 b1 b2 b3 b4 hcl hcr p1 p2 p3 p4 (by omega) (by omega) (by omega) (by omega) hl1 hl2 key)
  · exact execs_then 3 2 lawBody (law_32 (s := { s with heap := h2, toks := tk2 }) X TR hd hu F2 N2 d1' d2' d3' hst hne hi1 hn1 b1 b2 b3 b4 hcl hcr p1 p2 p3 p4 (by omega) (by omega) (by omega) (by omega) hl1 hl2 key)
  · exact execs_then 3 2 lawBody (law_33 (s := { s with heap := h2, toks := tk2 }) X TR hd hu F2 N2 d1' d2' d3' hst hne hi1 hn1 b1 b2 b3 b4 hcl hcr p1 p2 p3 p4 (by omega) (by omega) (by omega) (by omega) hl1 hl2 key)
end Mine
end
section
open PySem PySem.W PySem.Calls PySem.Spec PyProof.Rows
set_option Elab.async false
set_option maxRecDepth 100000
set_option maxHeartbeats 4000000
set_option linter.unusedVariables false
namespace Mine
theorem fillK15 : PySem.Challenge.rw_ez0208_01 = PySem.Challenge.rw_ez0208_01 → (∀ P, Mine.hd.heap_39 P = Mine.hd.heap_39 P) := by k_fill; intros; rfl
theorem low_of {K : Frag} {h : Heap} {o : Obj} (X : K.In h) (e : K.lookup 127 = some o) : @LE.le Nat _ 128 h.objs.size := Heap.lt_size (X _ _ e)
theorem low_127 {P : Params} {h : Heap} (X : (Mine.hd.heap_39 P).In h) : @LE.le Nat _ 128 h.objs.size := by
  refine' low_of X ?e
  case e => k_is
theorem law_holds (H : Law11) : PySem.Challenge.rw_ez0208_01.Holds := Mine.hd (by w_strict (
  k_fill
  intro w s₀ s₁ mg mb G Y fa o pm cd doc dV kV ho hd hcd hD hmg hg args vals as hpre hlay hrd hwl hlo
  have KX := kIn_of Y
  have X := (Ground.X G).1
  have V := (Ground.X G).2
  refine Ground.open G ?_
  intro T B D TE TW
  try (refine guard_noD D (by decide +kernel) ?_; clear D)
  obtain ⟨_, _, M⟩ := bmod_of_top T
  have TA := at_of_top T
  try (obtain ⟨_, _, he, B0⟩ := based_of_top T rfl hmg ho hd; have he' : cd = _ := he; subst he'; clear he)
  clear hmg
  wrow_args hpre hlay hrd hwl hlo
  all_goals (
    first | refine callC_kw (enter_call ?_) | refine enter_call ?_ | refine callC_kw (enter_callW ?_) | refine enter_callW ?_ | w_how
    w_top on
    have K0 := below_caller (Top.heap T)
    w_call any ho hd hcd hD T F
    refine' law_core H KX T ?a1 ?a2 (by assumption) (by assumption) ?d1 ?d2 ?d3 ?d4 (by assumption) (by assumption) ?hn hg ?hL ?_
    case a1 => (show 302 + 100 < recursionLimit); decide +kernel
    case a2 => (show 7 + 1000 < cLine); decide +kernel
    case d1 => assumption
    case d2 => assumption
    case d3 => assumption
    case d4 => assumption
    case hn => omega
    case hL => exact low_127 KX
    (intro h' tk gs O9 G9)
    refine ⟨.inl ⟨.bool true, .bool true, [], rfl, fun _ => ?_, .bool true, ?_, fun _ => ⟨List.nodup_nil, fun a h => nomatch h⟩⟩, O9, rfl, G9⟩
    all_goals first | rfl | exact postW_of (by wrow_shape) (by wtm_val) (by str_meet; first | done | w_fin))))
end Mine
end
section
open PySem PySem.W PySem.Calls PySem.Spec PyProof.Rows
set_option Elab.async false
set_option maxRecDepth 100000
set_option maxHeartbeats 4000000
set_option linter.unusedVariables false
set_option linter.unusedSimpArgs false
namespace Mine
abbrev FF : Value → Shared → Prop := fun _ _ => False
noncomputable def CompT (prog : Program) (w : World) (A : Around) (it : Value) (D : Addr) (cenv : Env) (target elt : Expr) (Fin : Shared → Prop) : Nat → Shared → Prop
  | 0, s => wpAny (model prog w) A (pyNext it) (fun r s' => r = none ∧ Fin s') FF s
  | n + 1, s => wpAny (model prog w) A (pyNext it) (fun r s₁ => ∃ v, r = some v ∧ wpAny (model prog w) A (assign target cenv v) (fun _ s₂ => wpAny (model prog w) A (eval elt cenv) (fun y s₃ =>
      wpAny (model prog w) A (call (.builtin "list.append") [.ref D, y]) (fun _ s₄ => CompT prog w A it D cenv target elt Fin n s₄) FF s₃) FF s₂) FF s₁) FF s
section
variable {prog : Program} {w : World} {A : Around} {E : Value → Shared → Prop} {s : Shared} {env : Env}
theorem compT_loop {R : Result → Shared → Prop} {it : Value} {D : Addr} {cenv : Env} {x : Str} {px : Pos} {elt iter : Expr} {scope : Scope} {pos : Pos} {Fin : Shared → Prop} (n : Nat) (h : CompT prog w A it D cenv (.Name x px) elt Fin n s) (hR : ∀ s', Fin s' → R (.ok .next) s') :
    codeAny (model prog w) A (.compLoop (.ListComp elt [⟨.Name x px, iter, [], 0⟩] scope pos) 0 it (.ref D) cenv) R s := by
  refine codeAny_compLoop_list (fun k s => CompT prog w A it D cenv (.Name x px) elt Fin k s) (fun k s hk => ?_) n h
  cases k with
  | zero => exact wpAny_mono hk (fun r s' q => by obtain ⟨rfl, f⟩ := q; exact hR s' f) fun _ _ q => q.elim
  | succ k =>
    refine wpAny_mono hk (fun r s₁ q => ?_) fun _ _ q => q.elim
    obtain ⟨v, rfl, q⟩ := q
    exact wpAny_mono q (fun _ s₂ q => wpAny_mono q (fun y s₃ q => wpAny_mono q (fun _ s₄ q => ⟨k, Nat.lt_succ_self _, q⟩) fun _ _ q => q.elim) fun _ _ q => q.elim) fun _ _ q => q.elim
/-- a list comprehension of one clause whose target is a local name -/
theorem comp_L {elt iter : Expr} {x : Str} {px : Pos} {scope : Scope} {cl : List (Str × Addr)} {pos : Pos} {Q : Value → Shared → Prop}
    (hclos : closureFor scope env = pure cl) (hcell : ∀ y ∈ scope.names, y.2 ≠ .cell) (hkind : scope.kind = .function) (hnames : ∀ y ∈ scope.names, y.2 = .local → scope.names.lookup y.1 = some .local)
    (h : wpAny (model prog w) A (eval iter env) (fun xv s₁ => wpAny (model prog w) A (pyIter xv) (fun it s₂ =>
      ∀ h₄ tk, Ext s₂.heap h₄ → h₄.objs.size = s₂.heap.objs.size + 2 → h₄.get? s₂.heap.objs.size = some (LCg.lst []) → h₄.Ns (s₂.heap.objs.size + 1) (fun _ => none) →
        (∀ (Q' : Value → Shared → Prop), Q' it { s₂ with heap := h₄, toks := tk } → wpAny (model prog w) A (pyIter it) Q' FF { s₂ with heap := h₄, toks := tk }) ∧
        ∃ n, CompT prog w A it s₂.heap.objs.size (compEnvC scope cl (s₂.heap.objs.size + 1) env) (.Name x px) elt
          (fun s' => ∃ m, s'.heap.Ns (s₂.heap.objs.size + 1) m ∧ ∀ h', Heap.SameBut (s₂.heap.objs.size + 1) s'.heap h' → Q (.ref s₂.heap.objs.size) { s' with heap := h' }) n { s₂ with heap := h₄, toks := tk }) E s₁) E s)
    (hs : ∀ x, foldedSetIterable iter env x = pure x := by intro _; rfl) :
    wpAny (model prog w) A (eval (.ListComp elt [⟨.Name x px, iter, [], 0⟩] scope pos) env) Q E s := by
  rw [eval_ListComp]
  refine wpAny_comprehension_free (use := none) rfl hs hclos hkind hnames (wpAny_mono h (fun xv s₁ h₁ => wpAny_mono h₁ (fun it s₂ h₂ => ?_) fun _ _ e => e) fun _ _ e => e)
  refine wpAny_newObj_type (wpAny_newFunctionEnv hcell (by intro y hy; simp at hy) (fun h₁ hns₁ hsb₁ => ?_) hkind)
  dsimp only at hns₁ hsb₁ ⊢
  have hC : (s₂.heap.push { cls := .type "list", dict := none, data := .seq ([] : List Value).toArray }).objs.size = s₂.heap.objs.size + 1 := Heap.size_push ..
  rw [hC] at hns₁ hsb₁
  have up : Ext s₂.heap h₁ := fun b o e => hsb₁.extBut b o (Nat.ne_of_lt (Nat.lt_succ_of_lt (Heap.lt_size e))) (Heap.get?_push_of_some _ (Heap.get?_push_of_some _ e))
  have hD : h₁.get? s₂.heap.objs.size = some (LCg.lst []) := hsb₁.extBut _ _ (Nat.ne_of_lt (Nat.lt_succ_self _)) (Heap.get?_push_of_some _ (Heap.get?_push_size _ rfl))
  have hsz : h₁.objs.size = s₂.heap.objs.size + 2 := by rw [hsb₁.1, Heap.size_push, hC]
  have hns : h₁.Ns (s₂.heap.objs.size + 1) (fun _ => none) := by
    have e : (fun x : Str => ([] : List (Str × Value)).reverse.lookup x) = fun _ => none := by funext x; rfl
    rw [e] at hns₁; exact hns₁
  obtain ⟨hself, n, ht⟩ := h₂ h₁ (s₂.toks + ([] : List (Str × Value)).length) up hsz hD hns
  rw [hC]
  have loop : codeAny (model prog w) A (.compLoop (.ListComp elt [⟨.Name x px, iter, [], 0⟩] scope pos) 0 it (.ref s₂.heap.objs.size) (compEnvC scope cl (s₂.heap.objs.size + 1) env)) (compPost (model prog w) A E none Q (.ref s₂.heap.objs.size) (s₂.heap.objs.size + 1)) { s₂ with heap := h₁, toks := s₂.toks + ([] : List (Str × Value)).length } :=
    compT_loop n ht fun s' q => q
  exact codeAny_compStart_list loop (wpAny_mono (hself _ loop) (fun _ _ q => q) fun _ _ q => q.elim)
/-- the same, the target a cell -/
theorem comp_C {elt iter : Expr} {x : Str} {px : Pos} {scope : Scope} {cl : List (Str × Addr)} {pos : Pos} {Q : Value → Shared → Prop}
    (hclos : closureFor scope env = pure cl) (hcf : ∀ b, cellsFrom b scope.names cl = (x, b) :: cl) (hpc : ∀ h : Heap, pushCells h scope.names = h.push { cls := .type "cell", data := .cell none })
    (hkind : scope.kind = .function) (hnames : ∀ y ∈ scope.names, y.2 = .local → scope.names.lookup y.1 = some .local)
    (h : wpAny (model prog w) A (eval iter env) (fun xv s₁ => wpAny (model prog w) A (pyIter xv) (fun it s₂ =>
      ∀ h₄ tk, Ext s₂.heap h₄ → h₄.objs.size = s₂.heap.objs.size + 3 → h₄.get? s₂.heap.objs.size = some (LCg.lst []) → h₄.Ns (s₂.heap.objs.size + 1) (fun _ => none) → h₄.IsCell (s₂.heap.objs.size + 2) none →
        (∀ (Q' : Value → Shared → Prop), Q' it { s₂ with heap := h₄, toks := tk } → wpAny (model prog w) A (pyIter it) Q' FF { s₂ with heap := h₄, toks := tk }) ∧
        ∃ n, CompT prog w A it s₂.heap.objs.size (compEnvC scope ((x, s₂.heap.objs.size + 2) :: cl) (s₂.heap.objs.size + 1) env) (.Name x px) elt
          (fun s' => ∃ m, s'.heap.Ns (s₂.heap.objs.size + 1) m ∧ ∀ h', Heap.SameBut (s₂.heap.objs.size + 1) s'.heap h' → Q (.ref s₂.heap.objs.size) { s' with heap := h' }) n { s₂ with heap := h₄, toks := tk }) E s₁) E s)
    (hs : ∀ x, foldedSetIterable iter env x = pure x := by intro _; rfl) :
    wpAny (model prog w) A (eval (.ListComp elt [⟨.Name x px, iter, [], 0⟩] scope pos) env) Q E s := by
  rw [eval_ListComp]
  refine wpAny_comprehension_free (use := none) rfl hs hclos hkind hnames (wpAny_mono h (fun xv s₁ h₁ => wpAny_mono h₁ (fun it s₂ h₂ => ?_) fun _ _ e => e) fun _ _ e => e)
  refine wpAny_newObj_type ?_
  have hC : (s₂.heap.push { cls := .type "list", dict := none, data := .seq ([] : List Value).toArray }).objs.size = s₂.heap.objs.size + 1 := Heap.size_push ..
  unfold newFunctionEnv
  refine wpAny_bind (wpAny_alloc ?_)
  refine wpAny_bind (wpAny_layCells _ (fun name kind cells => by cases hkc : kind == NameKind.cell <;> simp [hkc]) _ _ _ _ ?_)
  simp only [Option.isSome_some, if_true]
  generalize hh2 : (s₂.heap.push { cls := .type "list", dict := none, data := .seq ([] : List Value).toArray }).push { cls := .type "dict", data := .dict #[] } = h2
  have hC2 : h2.objs.size = s₂.heap.objs.size + 2 := by rw [← hh2, Heap.size_push, hC]
  rw [hpc, hcf, hC, hC2]
  simp only [List.forIn_nil]
  have up : Ext s₂.heap (h2.push { cls := .type "cell", data := .cell none }) := fun b o e => Heap.get?_push_of_some _ (hh2 ▸ Heap.get?_push_of_some _ (Heap.get?_push_of_some _ e))
  have hD : (h2.push { cls := .type "cell", data := .cell none }).get? s₂.heap.objs.size = some (LCg.lst []) := Heap.get?_push_of_some _ (hh2 ▸ Heap.get?_push_of_some _ (Heap.get?_push_size _ rfl))
  have hns : (h2.push { cls := .type "cell", data := .cell none }).Ns (s₂.heap.objs.size + 1) (fun _ => none) := by
    have := Heap.Ns.new (s₂.heap.push { cls := .type "list", dict := none, data := .seq ([] : List Value).toArray }) (.type "dict")
    rw [hC, hh2] at this
    exact this.push _
  have hK : (h2.push { cls := .type "cell", data := .cell none }).IsCell (s₂.heap.objs.size + 2) none := ⟨_, by rw [← hC2]; exact Heap.get?_push_size _ rfl, rfl⟩
  obtain ⟨hself, n, ht⟩ := h₂ _ s₂.toks up (by rw [Heap.size_push, hC2]) hD hns hK
  refine wpAny_bind (wpAny_pure (wpAny_pure ?_))
  have loop : codeAny (model prog w) A (.compLoop (.ListComp elt [⟨.Name x px, iter, [], 0⟩] scope pos) 0 it (.ref s₂.heap.objs.size) (compEnvC scope ((x, s₂.heap.objs.size + 2) :: cl) (s₂.heap.objs.size + 1) env)) (compPost (model prog w) A E none Q (.ref s₂.heap.objs.size) (s₂.heap.objs.size + 1)) { s₂ with heap := h2.push { cls := .type "cell", data := .cell none }, toks := s₂.toks } :=
    compT_loop n ht fun s' q => q
  exact codeAny_compStart_list loop (wpAny_mono (hself _ loop) (fun _ _ q => q) fun _ _ q => q.elim)
end
end Mine
end
section
open PySem PySem.W PySem.Calls PySem.Spec PyProof.Rows
set_option Elab.async false
set_option maxRecDepth 100000
set_option maxHeartbeats 4000000
set_option linter.unusedVariables false
set_option linter.unusedSimpArgs false
namespace Mine
/-- an address below B is in use -/
def Lv (B : Nat) (h : Heap) : Prop := ∃ (z : Addr) (o : Obj), B = z + 1 ∧ h.get? z = some o
theorem Lv.ext {B : Nat} {h h' : Heap} (x : Lv B h) (e : Ext h h') : Lv B h' := let ⟨z, o, a, b⟩ := x; ⟨z, o, a, e _ _ b⟩
theorem Lv.le {B : Nat} {h : Heap} (x : Lv B h) : @LE.le Nat _ B h.objs.size := let ⟨z, o, a, b⟩ := x; a ▸ Heap.lt_size b
structure Tgt (prog : Program) (w : World) (A : Around) (cenv : Env) (x : Str) (px : Pos) (Z : Addr) (SPre : Heap → Prop) (Has : Value → Heap → Prop) : Prop where
  asg : ∀ v (s' : Shared) (Q' : Unit → Shared → Prop), SPre s'.heap → (∀ h' tk, Has v h' → Heap.SameBut Z s'.heap h' → Q' () { s' with heap := h', toks := tk }) → wpAny (model prog w) A (assign (.Name x px) cenv v) Q' FF s'
  pre : ∀ v h, Has v h → SPre h
  keepP : ∀ h h', SPre h → (∀ o, h.get? Z = some o → h'.get? Z = some o) → SPre h'
  keepH : ∀ v h h', Has v h → (∀ o, h.get? Z = some o → h'.get? Z = some o) → Has v h'
  live : ∀ h, SPre h → ∃ o, h.get? Z = some o
def HasL (C : Addr) (x : Str) (v : Value) (h : Heap) : Prop := ∃ m, h.Ns C m ∧ m x = some v
theorem tgt_L {prog : Program} {w : World} {A : Around} {env : Env} {scope : Scope} {cl : List (Str × Addr)} {C : Addr} {x : Str} {px : Pos} (hx : scope.names.lookup x = some .local) (hkind : scope.kind = .function) :
    Tgt prog w A (compEnvC scope cl C env) x px C (fun h => ∃ m, h.Ns C m) (HasL C x) where
  asg := fun v s' Q' hp hq => by
    obtain ⟨m, hn⟩ := hp
    exact wpAny_assign_Name (wpAny_storeName_local (lookup_relabel_local hx) hn (fun h₃ hn₃ hs₃ => hq h₃ _ ⟨_, hn₃, if_pos rfl⟩ hs₃) (by simp [compEnvC, relabel, hkind]))
  pre := fun v h ⟨m, hn, _⟩ => ⟨m, hn⟩
  keepP := fun h h' ⟨m, hn⟩ k => ⟨m, hn.at' fun o e => k o e⟩
  keepH := fun v h h' ⟨m, hn, e⟩ k => ⟨m, hn.at' fun o e => k o e, e⟩
  live := fun h ⟨m, hn⟩ => let ⟨o, _, _, e, _⟩ := hn; ⟨o, e⟩
theorem tgt_C {prog : Program} {w : World} {A : Around} {env : Env} {scope : Scope} {cl : List (Str × Addr)} {C K : Addr} {x : Str} {px : Pos} (hx : (compEnvC scope ((x, K) :: cl) C env).kindOf x = some .cell) (hkind : scope.kind = .function) :
    Tgt prog w A (compEnvC scope ((x, K) :: cl) C env) x px K (fun h => ∃ v, h.IsCell K v) (fun v h => h.IsCell K (some v)) where
  asg := fun v s' Q' hp hq => by
    obtain ⟨v₀, hv⟩ := hp
    have hk : (compEnvC scope ((x, K) :: cl) C env).scope.kind = .function := hkind
    exact wpAny_assign_Name (wpAny_storeName_cell hk hx (by simp [compEnvC, List.lookup]) hv fun h' h1 h2 => hq h' s'.toks h1 h2)
  pre := fun v h hc => ⟨_, hc⟩
  keepP := fun h h' ⟨v, o, e, d⟩ k => ⟨v, o, k o e, d⟩
  keepH := fun v h h' ⟨o, e, d⟩ k => ⟨o, k o e, d⟩
  live := fun h ⟨v, o, e, d⟩ => ⟨o, e⟩
section
variable {prog : Program} {w : World} {A : Around} {s : Shared}
theorem compT_walk {cenv : Env} {x : Str} {px : Pos} {elt : Expr} {I D Z : Addr} {fp : List Addr} {n : Nat} {P : Nat → Value → Prop} {St : Nat → Heap → Prop} {SPre : Heap → Prop} {Has : Value → Heap → Prop} {Fin : Shared → Prop} {h₄ : Heap} {tk₄ : Nat} {G : Nat → Value → Heap → Prop}
    (W : Walks prog w A I fp [I] n P St) (hsz : n ≤ sizeLine) (Tg : Tgt prog w A cenv x px Z SPre Has) (hID : I ≠ D) (hIZ : I ≠ Z) (hDZ : D ≠ Z) (hDf : D ∉ fp) (hZf : Z ∉ fp) (lI : @LT.lt Nat _ I h₄.objs.size) (lD : @LT.lt Nat _ D h₄.objs.size) (lZ : h₄.objs.size = Z + 1)
    (hst : St 0 h₄) (hD : h₄.get? D = some (LCg.lst [])) (hP : SPre h₄)
    (mono : ∀ i y h h', G i y h → (∀ b o, @LE.le Nat _ h₄.objs.size b → h.get? b = some o → h'.get? b = some o) → G i y h')
    (el : ∀ i v h' tk, i < n → P i v → Has v h' → (∀ b o, b ≠ I → b ≠ D → b ≠ Z → h₄.get? b = some o → h'.get? b = some o) → Lv h₄.objs.size h' →
      wpAny (model prog w) A (eval elt cenv) (fun y s'' => G i y s''.heap ∧ Keeps { s with heap := h', toks := tk } s'') FF { s with heap := h', toks := tk })
    (fin : ∀ h' tk ys, (∀ b o, b ≠ I → b ≠ D → b ≠ Z → h₄.get? b = some o → h'.get? b = some o) → SPre h' → h'.get? D = some (LCg.lst ys) → ys.length = n → (∀ j y, ys[j]? = some y → G j y h') → Fin { s with heap := h', toks := tk }) :
    CompT prog w A (.ref I) D cenv (.Name x px) elt Fin n { s with heap := h₄, toks := tk₄ } := by
  have size : ∀ {h : Heap}, SPre h → Lv h₄.objs.size h := fun hp => let ⟨o, e⟩ := Tg.live _ hp; ⟨Z, o, lZ, e⟩
  have lZ' : @LT.lt Nat _ Z h₄.objs.size := by rw [lZ]; exact Nat.lt_succ_self _
  have key : ∀ (j i : Nat) (h : Heap) (tk : Nat) (ys : List Value), i + j = n → St i h → SPre h → h.get? D = some (LCg.lst ys) → ys.length = i → (∀ j y, ys[j]? = some y → G j y h) → (∀ b o, b ≠ I → b ≠ D → b ≠ Z → h₄.get? b = some o → h.get? b = some o) →
      CompT prog w A (.ref I) D cenv (.Name x px) elt Fin j { s with heap := h, toks := tk } := by
    intro j
    induction j with
    | zero =>
      intro i h tk ys hi st hp hd hl hg hk
      have e : i = n := by omega
      subst e
      refine W.done _ _ _ st fun h' tk' hk' => ⟨rfl, ?_⟩
      have hk2 : ∀ b o, b ≠ I → h.get? b = some o → h'.get? b = some o := fun b o hb e => hk' b o (by simpa using hb) e
      have hp' := Tg.keepP _ h' hp fun o e => hk2 _ o (Ne.symm hIZ) e
      exact fin h' tk' ys (fun b o h1 h2 h3 e => hk2 b o h1 (hk b o h1 h2 h3 e)) hp' (hk2 _ _ (Ne.symm hID) hd) hl fun j y hy => mono _ _ _ _ (hg j y hy) fun b o hb e => hk2 b o (fun q => by rw [q] at hb; exact Nat.lt_irrefl _ (Nat.lt_of_lt_of_le lI hb)) e
    | succ j ih =>
      intro i h tk ys hi st hp hd hl hg hk
      have hlt : i < n := by omega
      refine W.item i _ _ _ hlt st fun v h1 tk1 hPv st1 hk1 => ⟨v, rfl, ?_⟩
      have k1 : ∀ b o, b ≠ I → h.get? b = some o → h1.get? b = some o := fun b o hb e => hk1 b o (by simpa using hb) e
      have hp1 := Tg.keepP _ h1 hp fun o e => k1 _ o (Ne.symm hIZ) e
      refine Tg.asg v _ _ hp1 fun h2 tk2 hv2 hs2 => ?_
      have k2 : ∀ b o, b ≠ Z → h1.get? b = some o → h2.get? b = some o := fun b o hb e => hs2.extBut b o hb e
      have off2 : ∀ b o, b ≠ I → b ≠ D → b ≠ Z → h₄.get? b = some o → h2.get? b = some o := fun b o a1 a2 a3 e => k2 b o a3 (k1 b o a1 (hk b o a1 a2 a3 e))
      have st2 : St (i + 1) h2 := W.frame _ _ _ st1 fun b hb o e => k2 b o (fun q => hZf (q ▸ hb)) e
      have hd2 : h2.get? D = some (LCg.lst ys) := k2 _ _ hDZ (k1 _ _ (Ne.symm hID) hd)
      refine wpAny_mono (el i v h2 tk2 hlt hPv hv2 off2 (size (Tg.pre _ _ hv2))) (fun y s3 q => ?_) fun _ _ q => q
      obtain ⟨hGy, h3, tk3, rfl, hk3⟩ := q
      have st3 : St (i + 1) h3 := W.frame _ _ _ st2 fun b _ o e => hk3 b o e
      refine append_at (hsz := by show ys.toArray.size ≤ sizeLine; rw [List.size_toArray, hl]; exact Nat.le_trans (Nat.le_of_lt hlt) hsz) (hk3 _ _ hd2) fun h4 hs4 hD4 => ?_
      have k4 : ∀ b o, b ≠ D → h3.get? b = some o → h4.get? b = some o := fun b o hb e => hs4.extBut b o hb e
      have hp4 : SPre h4 := Tg.keepP _ _ (Tg.keepP _ h3 (Tg.pre _ _ hv2) fun o e => hk3 _ o e) fun o e => k4 _ o (Ne.symm hDZ) e
      have up : ∀ b o, @LE.le Nat _ h₄.objs.size b → h3.get? b = some o → h4.get? b = some o := fun b o hb e => k4 b o (fun q => by rw [q] at hb; exact Nat.lt_irrefl _ (Nat.lt_of_lt_of_le lD hb)) e
      refine ih (i + 1) h4 tk3 (ys ++ [y]) (by omega) (W.frame _ _ _ st3 fun b hb o e => k4 b o (fun q => hDf (q ▸ hb)) e) hp4 (hD4.trans (congrArg some (LCg.lst_snoc ys y))) (by rw [List.length_append, List.length_singleton, hl]) ?_ (fun b o a1 a2 a3 e => k4 b o a2 (hk3 b o (off2 b o a1 a2 a3 e)))
      intro j' y' hy'
      rcases Nat.lt_or_ge j' ys.length with q | q
      · rw [List.getElem?_append_left q] at hy'
        refine mono _ _ _ _ (hg j' y' hy') fun b o hb e => up b o hb (hk3 b o (k2 b o (fun q => by rw [q] at hb; exact Nat.lt_irrefl _ (Nat.lt_of_lt_of_le lZ' hb)) (k1 b o (fun q => by rw [q] at hb; exact Nat.lt_irrefl _ (Nat.lt_of_lt_of_le lI hb)) e)))
      · rw [List.getElem?_append_right q] at hy'
        have e0 : j' - ys.length = 0 := by
          rcases Nat.eq_zero_or_pos (j' - ys.length) with z | z
          · exact z
          · rw [List.getElem?_eq_none (by simp; omega)] at hy'; cases hy'
        rw [e0] at hy'
        have ey : y = y' := Option.some.inj hy'
        have ej : j' = i := by omega
        subst ey ej
        exact mono _ _ _ _ hGy up
  exact key n 0 h₄ tk₄ [] (by omega) hst hP hD rfl (fun j y hy => by simp at hy) (fun b o _ _ _ e => e)
theorem na1 {I : Addr} : I ≠ I + 1 := Nat.ne_of_lt (Nat.lt_succ_self _)
theorem na2 {I : Addr} : I ≠ I + 1 + 1 := Nat.ne_of_lt (Nat.lt_succ_of_lt (Nat.lt_succ_self _))
theorem na3 {I : Addr} : I ≠ I + 1 + 1 + 1 := Nat.ne_of_lt (Nat.lt_succ_of_lt (Nat.lt_succ_of_lt (Nat.lt_succ_self _)))
theorem nlt {b I : Addr} (h : @LT.lt Nat _ b I) : b ≠ I ∧ b ≠ I + 1 ∧ b ≠ I + 1 + 1 ∧ b ≠ I + 1 + 1 + 1 := ⟨Nat.ne_of_lt h, Nat.ne_of_lt (Nat.lt_succ_of_lt h), Nat.ne_of_lt (Nat.lt_succ_of_lt (Nat.lt_succ_of_lt h)), Nat.ne_of_lt (Nat.lt_succ_of_lt (Nat.lt_succ_of_lt (Nat.lt_succ_of_lt h)))⟩
/-- over a range, the target a local name, the elements only make objects -/
theorem comp_range_L {env : Env} {E : Value → Shared → Prop} {elt iter : Expr} {x : Str} {px : Pos} {scope : Scope} {cl : List (Str × Addr)} {pos : Pos} {Q : Value → Shared → Prop} {a : Int} {n : Nat} {G : Nat → Nat → Value → Heap → Prop}
    (hclos : closureFor scope env = pure cl) (hcell : ∀ y ∈ scope.names, y.2 ≠ .cell) (hkind : scope.kind = .function) (hnames : ∀ y ∈ scope.names, y.2 = .local → scope.names.lookup y.1 = some .local) (hx : scope.names.lookup x = some .local)
    (hh : A.handled = none) (hs : ∀ x, foldedSetIterable iter env x = pure x)
    (hit : wpAny (model prog w) A (eval iter env) (fun xv s₁ => Keeps s s₁ ∧ ∃ r t u v, xv = .ref r ∧ IsRange s₁.heap r a (a + n) 1 t u v) E s)
    (hsm : Builtin.Range.small a (a + n) 1 = true) (hn : Builtin.Range.rangeSize a (a + n) 1 = ((n : Nat) : Int)) (hsz : n ≤ sizeLine)
    (mono : ∀ B i y h h', G B i y h → (∀ b o, @LE.le Nat _ B b → h.get? b = some o → h'.get? b = some o) → G B i y h')
    (el : ∀ B C i t h' tk, i < n → HasL C x (.int (a + (i : Int)) t) h' → Ext s.heap h' → Lv B h' →
      wpAny (model prog w) A (eval elt (compEnvC scope cl C env)) (fun y s'' => G B i y s''.heap ∧ Keeps { s with heap := h', toks := tk } s'') FF { s with heap := h', toks := tk })
    (ret : ∀ B D ys h' tk, Ext s.heap h' → (∀ B₀, Lv B₀ s.heap → @LE.le Nat _ B₀ D) → h'.get? D = some (LCg.lst ys) → ys.length = n → (∀ j y, ys[j]? = some y → G B j y h') → Q (.ref D) { s with heap := h', toks := tk }) :
    wpAny (model prog w) A (eval (.ListComp elt [⟨.Name x px, iter, [], 0⟩] scope pos) env) Q E s := by
  refine comp_L hclos hcell hkind hnames (wpAny_mono hit (fun xv s₁ q => ?_) fun _ _ e => e) hs
  obtain ⟨⟨h1, tk1, rfl, e1⟩, r, t, u, v, rfl, hr⟩ := q
  refine wpAny_pyIter_range hr hsm ?_
  intro h₄ tk e4 hsz4 hD hns
  dsimp only at hsz4 hD hns e4 ⊢
  have hp : (h1.push { cls := .type "range_iterator", data := .fields #[rawInt a, rawInt (Builtin.Range.rangeSize a (a + n) 1), rawInt 1] }).objs.size = h1.objs.size + 1 := by rw [Heap.size_push]
  rw [hp] at hsz4 hD hns ⊢
  have hst0 : IsRangeIter (h1.push { cls := .type "range_iterator", data := .fields #[rawInt a, rawInt (Builtin.Range.rangeSize a (a + n) 1), rawInt 1] }) h1.objs.size a ((n : Nat) : Int) 1 := by
    rw [hn]; exact Heap.get?_push_size _ rfl
  have hst := e4 _ _ hst0
  have lt : ∀ b o, s.heap.get? b = some o → @LT.lt Nat _ b h1.objs.size := fun b o e => Heap.lt_size (e1 b o e)
  have ext : Ext s.heap h₄ := fun b o e => e4 b o (Heap.get?_push_of_some _ (e1 b o e))
  have lv : ∀ B₀, Lv B₀ s.heap → @LE.le Nat _ B₀ (h1.objs.size + 1) := fun B₀ x => Nat.le_succ_of_le (x.ext e1).le
  generalize h1.objs.size = I at *
  have W := LCg.range_walks (prog := prog) (w := w) (A := A) (I := I) hh a n
  have st0 : IsRangeIter h₄ I (a + ((0 : Nat) : Int) * 1) ((n : Int) - ((0 : Nat) : Int)) 1 := by simpa using hst
  refine ⟨fun Q' q => W.self 0 _ _ _ st0 q, n, ?_⟩
  refine compT_walk (s := { s with heap := h₄ }) (h₄ := h₄) (G := G h₄.objs.size) W hsz (tgt_L hx hkind) (I := I) (D := I + 1) (Z := I + 1 + 1) na1 na2 na1 (fun hm => na1 (List.mem_singleton.mp hm).symm) (fun hm => na2 (List.mem_singleton.mp hm).symm) (by rw [hsz4]; exact Nat.lt_succ_of_lt (Nat.lt_succ_of_lt (Nat.lt_succ_self _))) (by rw [hsz4]; exact Nat.lt_succ_of_lt (Nat.lt_succ_self _)) hsz4 st0 hD ⟨_, hns⟩ (mono _) ?_ ?_
  · intro i v h' tk' hi hv hL hoff hle
    obtain ⟨t', rfl⟩ := hv
    exact el _ _ i t' h' tk' hi hL (fun b o e => hoff b o (nlt (lt b o e)).1 (nlt (lt b o e)).2.1 (nlt (lt b o e)).2.2.1 (ext b o e)) hle
  · intro h' tk' ys hoff hp' hd' hl' hg'
    obtain ⟨m, hm⟩ := hp'
    refine ⟨m, hm, fun h'' hs'' => ret h₄.objs.size (I + 1) ys h'' tk' (fun b o e => ?_) lv ((hs''.2 _ na1).trans hd') hl' fun j y hy => mono _ _ _ _ _ (hg' j y hy) fun b o hb e => hs''.extBut b o (fun q => by rw [q, hsz4] at hb; exact Nat.lt_irrefl _ hb) e⟩
    have := nlt (lt b o e)
    exact hs''.extBut b o this.2.2.1 (hoff b o this.1 this.2.1 this.2.2.1 (ext b o e))
/-- over a range, the target a cell -/
theorem comp_range_C {env : Env} {E : Value → Shared → Prop} {elt iter : Expr} {x : Str} {px : Pos} {scope : Scope} {cl : List (Str × Addr)} {pos : Pos} {Q : Value → Shared → Prop} {a : Int} {n : Nat} {G : Nat → Nat → Value → Heap → Prop}
    (hclos : closureFor scope env = pure cl) (hcf : ∀ b, cellsFrom b scope.names cl = (x, b) :: cl) (hpc : ∀ h : Heap, pushCells h scope.names = h.push { cls := .type "cell", data := .cell none })
    (hkind : scope.kind = .function) (hnames : ∀ y ∈ scope.names, y.2 = .local → scope.names.lookup y.1 = some .local) (hx : ∀ C K, (compEnvC scope ((x, K) :: cl) C env).kindOf x = some .cell)
    (hh : A.handled = none) (hs : ∀ x, foldedSetIterable iter env x = pure x)
    (hit : wpAny (model prog w) A (eval iter env) (fun xv s₁ => Keeps s s₁ ∧ ∃ r t u v, xv = .ref r ∧ IsRange s₁.heap r a (a + n) 1 t u v) E s)
    (hsm : Builtin.Range.small a (a + n) 1 = true) (hn : Builtin.Range.rangeSize a (a + n) 1 = ((n : Nat) : Int)) (hsz : n ≤ sizeLine)
    (mono : ∀ B i y h h', G B i y h → (∀ b o, @LE.le Nat _ B b → h.get? b = some o → h'.get? b = some o) → G B i y h')
    (el : ∀ B C K i t h' tk, i < n → h'.IsCell K (some (.int (a + (i : Int)) t)) → h'.Ns C (fun _ => none) → Ext s.heap h' → Lv B h' →
      wpAny (model prog w) A (eval elt (compEnvC scope ((x, K) :: cl) C env)) (fun y s'' => G B i y s''.heap ∧ Keeps { s with heap := h', toks := tk } s'') FF { s with heap := h', toks := tk })
    (ret : ∀ B D ys h' tk, Ext s.heap h' → (∀ B₀, Lv B₀ s.heap → @LE.le Nat _ B₀ D) → h'.get? D = some (LCg.lst ys) → ys.length = n → (∀ j y, ys[j]? = some y → G B j y h') → Q (.ref D) { s with heap := h', toks := tk }) :
    wpAny (model prog w) A (eval (.ListComp elt [⟨.Name x px, iter, [], 0⟩] scope pos) env) Q E s := by
  refine comp_C hclos hcf hpc hkind hnames (wpAny_mono hit (fun xv s₁ q => ?_) fun _ _ e => e) hs
  obtain ⟨⟨h1, tk1, rfl, e1⟩, r, t, u, v, rfl, hr⟩ := q
  refine wpAny_pyIter_range hr hsm ?_
  intro h₄ tk e4 hsz4 hD hns hK
  dsimp only at hsz4 hD hns hK e4 ⊢
  have hp : (h1.push { cls := .type "range_iterator", data := .fields #[rawInt a, rawInt (Builtin.Range.rangeSize a (a + n) 1), rawInt 1] }).objs.size = h1.objs.size + 1 := by rw [Heap.size_push]
  rw [hp] at hsz4 hD hns hK ⊢
  have hst0 : IsRangeIter (h1.push { cls := .type "range_iterator", data := .fields #[rawInt a, rawInt (Builtin.Range.rangeSize a (a + n) 1), rawInt 1] }) h1.objs.size a ((n : Nat) : Int) 1 := by
    rw [hn]; exact Heap.get?_push_size _ rfl
  have hst := e4 _ _ hst0
  have lt : ∀ b o, s.heap.get? b = some o → @LT.lt Nat _ b h1.objs.size := fun b o e => Heap.lt_size (e1 b o e)
  have ext : Ext s.heap h₄ := fun b o e => e4 b o (Heap.get?_push_of_some _ (e1 b o e))
  have lv : ∀ B₀, Lv B₀ s.heap → @LE.le Nat _ B₀ (h1.objs.size + 1) := fun B₀ x => Nat.le_succ_of_le (x.ext e1).le
  generalize h1.objs.size = I at *
  have W := LCg.range_walks (prog := prog) (w := w) (A := A) (I := I) hh a n
  have st0 : IsRangeIter h₄ I (a + ((0 : Nat) : Int) * 1) ((n : Int) - ((0 : Nat) : Int)) 1 := by simpa using hst
  refine ⟨fun Q' q => W.self 0 _ _ _ st0 q, n, ?_⟩
  refine compT_walk (s := { s with heap := h₄ }) (h₄ := h₄) (G := G h₄.objs.size) W hsz (tgt_C (hx _ _) hkind) (I := I) (D := I + 1) (Z := I + 1 + 2) na1 na3 na2 (fun hm => na1 (List.mem_singleton.mp hm).symm) (fun hm => na3 (List.mem_singleton.mp hm).symm) (by rw [hsz4]; exact Nat.lt_succ_of_lt (Nat.lt_succ_of_lt (Nat.lt_succ_of_lt (Nat.lt_succ_self _)))) (by rw [hsz4]; exact Nat.lt_succ_of_lt (Nat.lt_succ_of_lt (Nat.lt_succ_self _))) hsz4 st0 hD ⟨_, hK⟩ (mono _) ?_ ?_
  · intro i v h' tk' hi hv hL hoff hle
    obtain ⟨t', rfl⟩ := hv
    exact el _ _ _ i t' h' tk' hi hL (hns.at' fun o e => hoff _ o (Ne.symm na2) (Ne.symm na1) na1 e) (fun b o e => hoff b o (nlt (lt b o e)).1 (nlt (lt b o e)).2.1 (nlt (lt b o e)).2.2.2 (ext b o e)) hle
  · intro h' tk' ys hoff hp' hd' hl' hg'
    refine ⟨_, hns.at' fun o e => hoff _ o (Ne.symm na2) (Ne.symm na1) na1 e, fun h'' hs'' => ret h₄.objs.size (I + 1) ys h'' tk' (fun b o e => ?_) lv ((hs''.2 _ na1).trans hd') hl' fun j y hy => mono _ _ _ _ _ (hg' j y hy) fun b o hb e => hs''.extBut b o (fun q => by rw [q, hsz4] at hb; exact Nat.lt_irrefl _ (Nat.lt_of_succ_lt hb)) e⟩
    have := nlt (lt b o e)
    exact hs''.extBut b o this.2.2.1 (hoff b o this.1 this.2.1 this.2.2.2 (ext b o e))
end
end Mine
end
section
open PySem PySem.W PySem.Calls PySem.Spec PyProof.Rows
set_option Elab.async false
set_option maxRecDepth 100000
set_option maxHeartbeats 1000000
set_option linter.unusedVariables false
set_option linter.unusedSimpArgs false
namespace Mine
theorem fillK16 : PySem.Challenge.rw_ez0208_01 = PySem.Challenge.rw_ez0208_01 → (∀ P, Mine.hd.heap_39 P = Mine.hd.heap_39 P) := by k_fill; intros; rfl
def namesE : Option Expr := match lawBody.drop 10 with | .If _ (.Assign _ v _ :: _) _ _ :: _ => some v | _ => none
def eltE (o : Option Expr) : Option Expr := match o with | some (.ListComp e _ _ _) => some e | _ => none
def scE (o : Option Expr) : Scope := match o with | some (.ListComp _ _ sc _) => sc | _ => default
def theE (o : Option Expr) : Expr := match o with | some e => e | none => .Constant .none 0 ⟨0, 0, 0, 0⟩
def lawEnv (L fa : Addr) (cd : Value) : Env := envOfC (Str.ofString "law") lawScope L fa cd
def cellT (c r : Int) : Str := upS c ++ Str.ofString (toString r)
section
variable {M : Model} {A : Around} {E : Value → Shared → Prop} {s : Shared} {env : Env} {x : Str} {pos : Pos} {v : Value} {Q : Value → Shared → Prop}
theorem nm_local {m : Str → Option Value} (ns : s.heap.Ns env.locals m) (hv : m x = some v) (h : Q v s) (hk : env.scope.kind = .function := by rfl) (hl : env.kindOf x = some .local := by rfl) (hd : (x == ("__debug__" : Str)) = false := by decide) : wpAny M A (eval (.Name x pos) env) Q E s :=
  wpAny_Name (wpAny_loadName_local hk hl ns hv h) hd
theorem nm_hasL (ns : HasL env.locals x v s.heap) (h : Q v s) (hk : env.scope.kind = .function := by rfl) (hl : env.kindOf x = some .local := by rfl) (hd : (x == ("__debug__" : Str)) = false := by decide) : wpAny M A (eval (.Name x pos) env) Q E s := by
  obtain ⟨m, n, e⟩ := ns
  exact nm_local n e h hk hl hd
theorem nm_hasLC {scope : Scope} {cl : List (Str × Addr)} {C : Addr} (ns : HasL C x v s.heap) (h : Q v s) (hk : (compEnvC scope cl C env).scope.kind = .function := by rfl) (hl : (compEnvC scope cl C env).kindOf x = some .local := by rfl) (hd : (x == ("__debug__" : Str)) = false := by decide) : wpAny M A (eval (.Name x pos) (compEnvC scope cl C env)) Q E s := nm_hasL (env := compEnvC scope cl C env) ns h hk hl hd
theorem nm_free {c : Addr} (hv : s.heap.IsCell c (some v)) (h : Q v s) (hc : env.cells.lookup x = some c := by rfl) (hk : env.scope.kind = .function := by rfl) (hl : env.kindOf x = some .free := by rfl) (hd : (x == ("__debug__" : Str)) = false := by decide) (hn : (x == ("__classdict__" : Str)) = false := by decide) : wpAny M A (eval (.Name x pos) env) Q E s :=
  wpAny_Name (wpAny_loadName_free hk hl hc hv h hn) hd
theorem nm_cell {c : Addr} (hv : s.heap.IsCell c (some v)) (h : Q v s) (hc : env.cells.lookup x = some c := by rfl) (hk : env.scope.kind = .function := by rfl) (hl : env.kindOf x = some .cell := by rfl) (hd : (x == ("__debug__" : Str)) = false := by decide) : wpAny M A (eval (.Name x pos) env) Q E s :=
  wpAny_Name (wpAny_loadName_cell hk hl hc hv h) hd
theorem nm_glob {K : Frag} {p : Program} {loose : List Str} {mg mb : Str → Option Value} (X : K.In s.heap) (T : TopRead p loose mg mb s.heap) (e : nsIn K mainGlobals x = some (some v)) (h : Q v s) (hg : env.globals = mainGlobals := by rfl) (hk : env.scope.kind = .function := by rfl) (hl : env.kindOf x = some .globalImplicit := by rfl) (hd : (x == ("__debug__" : Str)) = false := by decide) : wpAny M A (eval (.Name x pos) env) Q E s :=
  Name_function_global hk hl (loadGlobal_global (env := env) (hg ▸ T.g) (mg_of X T.g e) h) hd
theorem nm_built {K : Frag} {p : Program} {loose : List Str} {mg mb : Str → Option Value} (X : K.In s.heap) (T : TopRead p loose mg mb s.heap) (e : nsIn K mainGlobals x = some none) (hv : bootBuiltins x = some v) (hn : x ≠ "__name__") (h : Q v s) (hg : env.globals = mainGlobals := by rfl) (hb : env.builtins = builtinsNs := by rfl) (hk : env.scope.kind = .function := by rfl) (hl : env.kindOf x = some .globalImplicit := by rfl) (hd : (x == ("__debug__" : Str)) = false := by decide) : wpAny M A (eval (.Name x pos) env) Q E s :=
  Name_function_global hk hl (loadGlobal_builtin (env := env) (hg ▸ T.g) (mg_none_of X T.g e) (hb ▸ T.b) ((T.builtins x hn).trans hv) h) hd
end
local macro_rules | `(tactic| walk_at "eval Name") => `(tactic| (k_dflt (first
  | (name_kind "local"; refine nm_hasLC (by with_reducible assumption) ?_)
  | (name_kind "free"; refine' nm_cell ?hv ?_ ?hc; (case hc => rfl); (case hv => with_reducible assumption))
  | (name_kind "globalImplicit"; refine nm_glob (by with_reducible assumption) (by with_reducible assumption) (by k_is) ?_)
  | (name_kind "globalImplicit"; refine nm_built (by with_reducible assumption) (by with_reducible assumption) (by k_is) (by boot_by_name) (by decide) ?_))))
/-- a range's object -/
def RangeAt (s : Shared) (a b : Int) (xv : Value) (s₁ : Shared) : Prop := Keeps s s₁ ∧ ∃ r t u v, xv = .ref r ∧ IsRange s₁.heap r a b 1 t u v
def ElAt (G : Value → Heap → Prop) (s : Shared) (y : Value) (s₁ : Shared) : Prop := G y s₁.heap ∧ Keeps s s₁
theorem rng2 {prog : Program} {w : World} {A : Around} {E : Value → Shared → Prop} {s : Shared} {Q : Value → Shared → Prop} {a b : Int} {t u : Tok} (h : ∀ h' tk r t' u' v', Ext s.heap h' → IsRange h' r a b 1 t' u' v' → Q (.ref r) { s with heap := h', toks := tk }) :
    wpAny (model prog w) A (call (.type "range") [.int a t, .int b u]) Q E s :=
  call_range_2 (h _ _ _ _ _ _ (fun _ _ e => Heap.get?_push_of_some _ e) (IsRange.new ..))
theorem rng1 {prog : Program} {w : World} {A : Around} {E : Value → Shared → Prop} {s : Shared} {Q : Value → Shared → Prop} {b : Int} {t : Tok} (h : ∀ h' tk r t' u' v', Ext s.heap h' → IsRange h' r 0 b 1 t' u' v' → Q (.ref r) { s with heap := h', toks := tk }) :
    wpAny (model prog w) A (call (.type "range") [.int b t]) Q E s :=
  call_range_1 (h _ _ _ _ _ _ (fun _ _ e => Heap.get?_push_of_some _ e) (IsRange.new ..))
local macro_rules | `(tactic| walk_at "call type:range") => `(tactic| (k_dflt (first | refine rng2 ?_ | refine rng1 ?_); intro h' tk' r' t' u' v' e' hr'))
local macro_rules | `(tactic| walk_at "RangeAt") => `(tactic| (exact ⟨⟨_, _, rfl, by assumption⟩, _, _, _, _, rfl, by assumption⟩))
theorem str_i {prog : Program} {w : World} {A : Around} {E : Value → Shared → Prop} {s : Shared} {Q : Value → Shared → Prop} {a : Int} {t : Tok} (h1 : 1 ≤ a) (h2 : a ≤ 15) (h : ∀ t' tk, (Str.ofString (toString a)).length ≤ 3 → Q (.str (Str.ofString (toString a)) t') { s with toks := tk }) : wpAny (model prog w) A (call (.type "str") [.int a t]) Q E s := by
  have hl : (Str.ofString (toString a)).length ≤ 3 := by
    have := (dig_r h1 h2).hi
    show (Str.ofString (toString a)).cps.size ≤ 3
    omega
  have hlog : a.natAbs.log2 < 1920 := by
    have hr : a = 1 ∨ a = 2 ∨ a = 3 ∨ a = 4 ∨ a = 5 ∨ a = 6 ∨ a = 7 ∨ a = 8 ∨ a = 9 ∨ a = 10 ∨ a = 11 ∨ a = 12 ∨ a = 13 ∨ a = 14 ∨ a = 15 := by omega
    rcases hr with rfl | rfl | rfl | rfl | rfl | rfl | rfl | rfl | rfl | rfl | rfl | rfl | rfl | rfl | rfl <;> decide +kernel
  exact P.str_of_int hlog (h _ _ hl)
theorem letters_e {w : World} {mg mb : Str → Option Value} {d u : Nat} {fr : Option (List Env)} {gd : Option (List Code)} {s : Shared} {Q E : Value → Shared → Prop} {tm : Tok} {c : Int}
    (X : (Mine.hd.heap_39 w.params).In s.heap) (T : TopRead Mine.hd.view_39 LO mg mb s.heap) (hd : d + 100 < recursionLimit) (hu : u + 1000 < cLine) (hc : IsC c)
    (ret : ∀ h' tk' t', Ext s.heap h' → (upS c).length ≤ 3 → Q (.str (upS c) t') { s with heap := h', toks := tk' }) :
    wpAny (model PySem.Challenge.rw_ez0208_01.row.prog w) ⟨none, d, fr, gd, u⟩ (call (.ref 113) [.int c tm] []) Q E s :=
  letters_c X T (by dsimp only; omega) (by dsimp only; omega) hc fun h' tk' t' e => ret h' tk' t' e (upS_len hc)
theorem cell_ext {h h' : Heap} {c : Addr} {v : Option Value} (x : h.IsCell c v) (e : Ext h h') : h'.IsCell c v := x.keeps e
local macro_rules | `(tactic| kt_len) => `(tactic| (with_reducible assumption))
local macro_rules | `(tactic| walk_at "call type:str") => `(tactic| (k_dflt (refine str_i (by assumption) (by assumption) ?_); intro t' k' hl'))
local macro_rules | `(tactic| walk_at "call ref") => `(tactic| ((with_reducible show wpAny _ _ (call (Value.ref 113) [Value.int _ _] _) _ _ _); (with_reducible rename Heap.IsCell _ _ _ => oc'); k_dflt (refine letters_e (by with_reducible assumption) (by with_reducible assumption) (by assumption) (by assumption) (by assumption) ?_); intro h' tk' t' e' hl'; (have nc' := cell_ext oc' e'); (with_reducible rename Frag.In _ _ => oX'); (with_reducible rename TopRead _ _ _ _ _ => oT'); (have nX' := ext_in oX' e'); (have nT' := ext_read oT' e'); clear oc' oX' oT'))
def StrAt (x : Str) (y : Value) (_ : Heap) : Prop := ∃ t, y = .str x t
theorem inner_c : ∀ {w : World} {mg mb : Str → Option Value} {d u : Nat} {fr : Option (List Env)} {gd : Option (List Code)} {s : Shared} {Q : Value → Shared → Prop} {L fa K C : Addr} {cd : Value} {l r row : Int} {tl tr t : Tok}
    (X : (Mine.hd.heap_39 w.params).In s.heap) (T : TopRead Mine.hd.view_39 LO mg mb s.heap) (hd : d + 100 < recursionLimit) (hu : u + 1000 < cLine) (c2 : s.heap.IsCell (L + 1 + 1) (some (.int l tl))) (c3 : s.heap.IsCell (L + 1 + 1 + 1) (some (.int r tr))) (ck : s.heap.IsCell K (some (.int row t)))
    (hl3 : l = 1 ∨ l = 26 ∨ l = 701) (q1 : l ≤ r) (q2 : r < l + 4) (r1 : 1 ≤ row) (r2 : row ≤ 15)
    (ret : ∀ D ys h' tk, Ext s.heap h' → (∀ B₀, Lv B₀ s.heap → @LE.le Nat _ B₀ D) → h'.get? D = some (LCg.lst ys) → ys.length = (r + 1 - l).toNat → (∀ (j : Nat) y, ys[j]? = some y → StrAt (cellT (l + (j : Int)) row) y h') → Q (.ref D) { s with heap := h', toks := tk }),
    wpAny (model PySem.Challenge.rw_ez0208_01.row.prog w) ⟨none, d, fr, gd, u⟩ (eval (theE (eltE namesE)) (compEnvC (scE namesE) [(Str.ofString "row", K), (Str.ofString "right", L + 1 + 1 + 1), (Str.ofString "left", L + 1 + 1)] C (lawEnv L fa cd))) Q FF s := by
  k_fill
  intro w mg mb d u fr gd s Q L fa K C cd l r row tl tr t X T hd hu c2 c3 ck hl3 q1 q2 r1 r2 ret
  have eS : lawScope = lawScope := rfl
  conv at eS => rhs; whnf
  have eN : scE namesE = scE namesE := rfl
  conv at eN => rhs; whnf
  have eI : theE (eltE namesE) = theE (eltE namesE) := rfl
  conv at eI => rhs; whnf
  rw [eI, eN]
  unfold lawEnv
  rw [eS]
  clear eI eN eS
  refine comp_range_L (cl := [(Str.ofString "row", K)]) (a := l) (n := (r + 1 - l).toNat) (G := fun B i y h => StrAt (cellT (l + (i : Int)) row) y h) (by with_unfolding_all rfl) (by decide) rfl (by decide) rfl rfl (fun _ => by with_unfolding_all rfl) ?hit ?sm ?hn ?sz ?mono ?el ?ret
  case hit =>
    have e9 : l + ((r + 1 - l).toNat : Int) = r + 1 := by omega
    rw [e9]
    refine wpAny_mono (?_ : wpAny _ _ _ (fun xv s₁ => RangeAt s l (r + 1) xv s₁) _ _) (fun _ _ q => q) (fun _ _ q => q)
    k_steps
  case sm => exact small_one (by omega) (by omega) (by omega) (by omega)
  case hn => rw [rangeSize_nat]; omega
  case sz => rw [PySem.sizeLine_eq]; omega
  case mono => exact fun B i y h h' q _ => q
  case ret => exact fun B D ys h' tk e lv hD hl hg => ret D ys h' tk e lv hD hl hg
  case el =>
    intro B C i t h' tk hi hL e hB
    have X' := ext_in X e
    have T' := ext_read T e
    have ck' := cell_ext ck e
    have hic : IsC (l + (i : Int)) := isC_of hl3 (by omega) (by omega)
    clear ret X T ck c2 c3
    refine wpAny_mono (?_ : wpAny _ _ _ (fun y s₁ => ElAt (StrAt (cellT (l + (i : Int)) row)) { s with heap := h', toks := tk } y s₁) _ _) (fun _ _ q => q) (fun _ _ q => q)
    k_steps
    exact ⟨⟨_, rfl⟩, _, _, rfl, by assumption⟩
end Mine
end
section
open PySem PySem.W PySem.Calls PySem.Spec PyProof.Rows
set_option Elab.async false
set_option maxRecDepth 100000
set_option maxHeartbeats 1000000
set_option linter.unusedVariables false
set_option linter.unusedSimpArgs false
namespace Mine
theorem fillK17 : PySem.Challenge.rw_ez0208_01 = PySem.Challenge.rw_ez0208_01 → (∀ P, Mine.hd.heap_39 P = Mine.hd.heap_39 P) := by k_fill; intros; rfl
section
variable {prog : Program} {w : World} {A : Around} {s : Shared}
/-- over a list, the target a local name -/
theorem comp_list_L {env : Env} {E : Value → Shared → Prop} {elt iter : Expr} {x : Str} {px : Pos} {scope : Scope} {cl : List (Str × Addr)} {pos : Pos} {Q : Value → Shared → Prop} {items : Array Value} {G : Nat → Nat → Value → Heap → Prop}
    (hclos : closureFor scope env = pure cl) (hcell : ∀ y ∈ scope.names, y.2 ≠ .cell) (hkind : scope.kind = .function) (hnames : ∀ y ∈ scope.names, y.2 = .local → scope.names.lookup y.1 = some .local) (hx : scope.names.lookup x = some .local)
    (hh : A.handled = none) (hs : ∀ x, foldedSetIterable iter env x = pure x)
    (hit : wpAny (model prog w) A (eval iter env) (fun xv s₁ => Keeps s s₁ ∧ ∃ r, xv = .ref r ∧ s₁.heap.IsList r items) E s)
    (hsz : items.size ≤ sizeLine)
    (mono : ∀ B i y h h', G B i y h → (∀ b o, @LE.le Nat _ B b → h.get? b = some o → h'.get? b = some o) → G B i y h')
    (el : ∀ B C i v h' tk, items[i]? = some v → HasL C x v h' → Ext s.heap h' → Lv B h' →
      wpAny (model prog w) A (eval elt (compEnvC scope cl C env)) (fun y s'' => G B i y s''.heap ∧ Keeps { s with heap := h', toks := tk } s'') FF { s with heap := h', toks := tk })
    (ret : ∀ B D ys h' tk, Ext s.heap h' → (∀ B₀, Lv B₀ s.heap → @LE.le Nat _ B₀ D) → h'.get? D = some (LCg.lst ys) → ys.length = items.size → (∀ j y, ys[j]? = some y → G B j y h') → Q (.ref D) { s with heap := h', toks := tk }) :
    wpAny (model prog w) A (eval (.ListComp elt [⟨.Name x px, iter, [], 0⟩] scope pos) env) Q E s := by
  refine comp_L hclos hcell hkind hnames (wpAny_mono hit (fun xv s₁ q => ?_) fun _ _ e => e) hs
  obtain ⟨⟨h1, tk1, rfl, e1⟩, r, rfl, hr⟩ := q
  have hrlt : @LT.lt Nat _ r h1.objs.size := by obtain ⟨_, e, _⟩ := hr; exact Heap.lt_size e
  refine wpAny_pyIter_list hr ?_
  intro h₄ tk e4 hsz4 hD hns
  dsimp only at hsz4 hD hns e4 ⊢
  have hp : (h1.push { cls := .type "list_iterator", data := .fields #[.ref r, .int 0 0] }).objs.size = h1.objs.size + 1 := by rw [Heap.size_push]
  rw [hp] at hsz4 hD hns ⊢
  have hst0 : (h1.push { cls := .type "list_iterator", data := .fields #[.ref r, .int 0 0] }).IsListIter h1.objs.size r 0 := ⟨_, Heap.get?_push_size _ rfl, rfl, rfl⟩
  have hst : h₄.IsListIter h1.objs.size r 0 ∧ h₄.IsList r items := ⟨hst0.at fun o e => e4 _ _ e, hr.at fun o e => e4 _ _ (Heap.get?_push_of_some _ e)⟩
  have lt : ∀ b o, s.heap.get? b = some o → @LT.lt Nat _ b h1.objs.size := fun b o e => Heap.lt_size (e1 b o e)
  have ext : Ext s.heap h₄ := fun b o e => e4 b o (Heap.get?_push_of_some _ (e1 b o e))
  have lv : ∀ B₀, Lv B₀ s.heap → @LE.le Nat _ B₀ (h1.objs.size + 1) := fun B₀ x => Nat.le_succ_of_le (x.ext e1).le
  clear hst0 hr
  generalize h1.objs.size = I at *
  have W := Walks.list (prog := prog) (w := w) (A := A) hh I r (nlt hrlt).1 items
  refine ⟨fun Q' q => W.self 0 _ _ _ hst q, items.size, ?_⟩
  refine compT_walk (s := { s with heap := h₄ }) (h₄ := h₄) (G := G h₄.objs.size) W hsz (tgt_L hx hkind) (I := I) (D := I + 1) (Z := I + 1 + 1) na1 na2 na1 ?_ ?_ (by rw [hsz4]; exact Nat.lt_succ_of_lt (Nat.lt_succ_of_lt (Nat.lt_succ_self _))) (by rw [hsz4]; exact Nat.lt_succ_of_lt (Nat.lt_succ_self _)) hsz4 hst hD ⟨_, hns⟩ (mono _) ?_ ?_
  · intro hm
    rcases List.mem_cons.mp hm with q | q
    · exact na1 q.symm
    · exact (nlt hrlt).2.1 (List.mem_singleton.mp q).symm
  · intro hm
    rcases List.mem_cons.mp hm with q | q
    · exact na2 q.symm
    · exact (nlt hrlt).2.2.1 (List.mem_singleton.mp q).symm
  · intro i v h' tk' hi hv hL hoff hle
    exact el _ _ i v h' tk' hv hL (fun b o e => hoff b o (nlt (lt b o e)).1 (nlt (lt b o e)).2.1 (nlt (lt b o e)).2.2.1 (ext b o e)) hle
  · intro h' tk' ys hoff hp' hd' hl' hg'
    obtain ⟨m, hm⟩ := hp'
    refine ⟨m, hm, fun h'' hs'' => ret h₄.objs.size (I + 1) ys h'' tk' (fun b o e => ?_) lv ((hs''.2 _ na1).trans hd') hl' fun j y hy => mono _ _ _ _ _ (hg' j y hy) fun b o hb e => hs''.extBut b o (fun q => by rw [q, hsz4] at hb; exact Nat.lt_irrefl _ hb) e⟩
    have := nlt (lt b o e)
    exact hs''.extBut b o this.2.2.1 (hoff b o this.1 this.2.1 this.2.2.1 (ext b o e))
end
def lstN (vs : List Value) (n : Nat) : Obj := { cls := .type "list", dict := none, data := .seq vs.toArray n, slots := #[] }
theorem lstN_of (vs : List Value) : ∃ n, LCg.lst vs = lstN vs n := ⟨_, rfl⟩
def Row1 (B : Nat) (ws : List Str) (y : Value) (h : Heap) : Prop := ∃ (T : Addr) (vs : List Value) (n : Nat), y = .ref T ∧ @LE.le Nat _ B T ∧ h.get? T = some (lstN vs n) ∧ StrsAre vs ws
theorem row1_mono {B : Nat} {ws : List Str} {y : Value} {h h' : Heap} (x : Row1 B ws y h) (k : ∀ b o, @LE.le Nat _ B b → h.get? b = some o → h'.get? b = some o) : Row1 B ws y h' := let ⟨T, vs, n, a, b, c, d⟩ := x; ⟨T, vs, n, a, b, k _ _ b c, d⟩
theorem row1_weak {B : Nat} {ws : List Str} {y : Value} {h h' : Heap} (x : Row1 B ws y h) (k : Ext h h') : Row1 0 ws y h' := let ⟨T, vs, n, a, b, c, d⟩ := x; ⟨T, vs, n, a, Nat.zero_le _, k _ _ c, d⟩
theorem strs_of {vs : List Value} {n : Nat} {f : Nat → Str} {h : Heap} (hl : vs.length = n) (hp : ∀ (j : Nat) y, vs[j]? = some y → StrAt (f j) y h) : StrsAre vs ((List.range n).map f) := by
  refine kdy_strs (by rw [hl, List.length_map, List.length_range]) fun j v hv => ⟨f j, ?_, hp j v hv⟩
  have hj : j < n := by rw [← hl]; exact (List.getElem?_eq_some_iff.mp hv).1
  rw [List.getElem?_map, List.getElem?_range hj]; rfl
theorem strs_reads {h : Heap} : ∀ {vs : List Value} {ws : List Str}, StrsAre vs ws → ReadsAll h vs (ws.map .str) []
  | _, _, .nil => .nil
  | _, _, .cons y t r => .cons (.str y t) (strs_reads r)
/-- a list of rows as data -/
def rowsD (n k : Nat) (f : Nat → Nat → Str) : PyData := .list ((List.range n).map fun i => .list (((List.range k).map (f i)).map .str))
theorem reads_row {B : Nat} {ws : List Str} {y : Value} {h : Heap} (x : Row1 B ws y h) : ∃ T, Reads h y (.list (ws.map .str)) [T] := by
  obtain ⟨T, vs, n, rfl, _, e, hs⟩ := x
  exact ⟨T, reads_list_at e rfl rfl (strs_reads hs)⟩
theorem reads_rowsAll {B : Nat} {h : Heap} : ∀ (ys : List Value) (ds : List (List Str)), ys.length = ds.length → (∀ (j : Nat) y, ys[j]? = some y → ∃ d, ds[j]? = some d ∧ Row1 B d y h) → ∃ as, ReadsAll h ys (ds.map fun d => .list (d.map .str)) as
  | [], [], _, _ => ⟨_, .nil⟩
  | [], _ :: _, hl, _ => by simp at hl
  | _ :: _, [], hl, _ => by simp at hl
  | y :: ys, d :: ds, hl, hp => by
    obtain ⟨d', hd', hr⟩ := hp 0 y rfl
    obtain rfl : d = d' := Option.some.inj hd'
    obtain ⟨T, hT⟩ := reads_row hr
    obtain ⟨as, has⟩ := reads_rowsAll ys ds (by simpa using hl) fun j y' hy => hp (j + 1) y' (by simpa using hy)
    exact ⟨_, .cons hT has⟩
theorem reads_rows {B n k : Nat} {f : Nat → Nat → Str} {ys : List Value} {h : Heap} {D : Addr} (hD : h.get? D = some (LCg.lst ys)) (hl : ys.length = n) (hp : ∀ (j : Nat) y, ys[j]? = some y → Row1 B ((List.range k).map (f j)) y h) : ∃ as, Reads h (.ref D) (rowsD n k f) as := by
  obtain ⟨as, has⟩ := reads_rowsAll ys ((List.range n).map fun i => (List.range k).map (f i)) (by rw [hl, List.length_map, List.length_range]) fun j y hy => by
    have hj : j < n := by rw [← hl]; exact (List.getElem?_eq_some_iff.mp hy).1
    exact ⟨_, by rw [List.getElem?_map, List.getElem?_range hj]; rfl, hp j y hy⟩
  rw [List.map_map] at has
  exact ⟨_, reads_list_at hD rfl rfl has⟩
end Mine
end
section
open PySem PySem.W PySem.Calls PySem.Spec PyProof.Rows
set_option Elab.async false
set_option maxRecDepth 100000
set_option maxHeartbeats 1000000
set_option linter.unusedVariables false
set_option linter.unusedSimpArgs false
namespace Mine
section
variable {M : Model} {A : Around} {R : GenEnd} {Y : Protocol} {n : Nat} {s₀ : Shared} {c : Code} {fs : List Frame} {s : Shared} {env : Env}
  {K : Flow → Sem Fin} {H : Value → Sem Fin} {gd : Bool → Bool} {lv : List Value → List Value}
theorem seg_For {target iter : Expr} {body orelse : List Stmt} {pos : Pos} (hs : ∀ x, foldedSetIterable iter env x = pure x)
    (h : wpAny M (A.over c fs) (eval iter env) (fun xv s₁ => wpAny M (A.over c fs) (pyIter xv) (fun it s₂ =>
      ∀ p, PySem.Seg M A R Y n s₀ (.forLoop target it body orelse env) (M.den (.forLoop target it body orelse env))
      (.ret (fun r => ((match r with | .ok f => (.pure f : Sem Flow) | .error e => .raise e).onRaise fun (x : Value) => do
        if (← field x 1) == Value.none then unsupported "frame.own-activation:exception-without-traceback"
        setFlight x env.frame).wrap K H gd lv) none (gd false) (lv []) c p [] :: fs) s₂) FF s₁) FF s) :
    PySem.Seg M A R Y n s₀ c ((exec (.For target iter body orelse pos) env).wrap K H gd lv) fs s := by
  rw [exec_For]
  refine seg_at ?_
  show PySem.Seg M A R Y n s₀ c ((eval iter env >>= fun x => (foldedSetIterable iter env x >>= fun x => (standAt iter.pos >>= fun _ => (holding [x] (pyIter x) >>= fun it => runOwn (.forLoop target it body orelse env) env)))).wrap K H gd lv) fs s
  refine seg_bind_wrap (wpAny_mono h (fun xv s₁ h₁ => ?_) fun _ _ q => q.elim)
  refine seg_bind_wrap (wpAny_of_eq (hs xv) ?_)
  refine seg_bind_wrap (wpAny_standAt ?_)
  refine seg_bind_wrap (wpAny_holding (wpAny_mono h₁ (fun it s₂ h₂ => ?_) fun _ _ q => q.elim))
  exact seg_call h₂
end
section
variable {prog : Program} {w : World} {A : Around} {R : GenEnd} {Y : Protocol} {n : Nat} {s₀ : Shared} {fs : List Frame} {s : Shared} {env : Env}
theorem seg_block_nil (h : ∀ c', PySem.Seg (model prog w) A R Y n s₀ c' (leafOf (.ok .next)) fs s) :
    PySem.Seg (model prog w) A R Y n s₀ (.block [] env) ((model prog w).den (.block [] env)) fs s := h _
/-- a turn of a loop whose body is one yield -/
theorem seg_forYield {x : Str} {px ypos epos : Pos} {it : Value} {e : Expr}
    (hfs : splitAtGen fs = none) (hfg : fs.any Frame.guarded = false) (hco : env.scope.isCoroutine = false) (hi : interactive env = false)
    (h : wpAny (model prog w) (A.over (.forLoop (.Name x px) it [.Expr (.Yield (some e) ypos) epos] [] env) fs) (pyNext it) (fun r s₁ => ∃ v, r = some v ∧
      wpAny (model prog w) (A.over (.forLoop (.Name x px) it [.Expr (.Yield (some e) ypos) epos] [] env) fs) (assign (.Name x px) env v) (fun _ s₂ =>
        wpAny (model prog w) (A.over (.forLoop (.Name x px) it [.Expr (.Yield (some e) ypos) epos] [] env) fs) (eval e env) (fun y s₃ => ∀ kap : Resume → Shared → Prop,
          (∀ s'', PySem.Seg (model prog w) A R Y n s'' (.forLoop (.Name x px) it [.Expr (.Yield (some e) ypos) epos] [] env) ((model prog w).den (.forLoop (.Name x px) it [.Expr (.Yield (some e) ypos) epos] [] env)) fs s'' → kap (.send .none) s'') → Y n s₀ y s₃ kap) FF s₂) FF s₁) FF s) :
    PySem.Seg (model prog w) A R Y (n + 1) s₀ (.forLoop (.Name x px) it [.Expr (.Yield (some e) ypos) epos] [] env) ((model prog w).den (.forLoop (.Name x px) it [.Expr (.Yield (some e) ypos) epos] [] env)) fs s := by
  show PySem.Seg _ A R Y _ s₀ _ ((forTurn (.Name x px) it [.Expr (.Yield (some e) ypos) epos] [] env).onRaise (fun x => do noteFrame x env; theTreesLotGoes x)) fs s
  unfold forTurn
  rw [Sem.onRaise_eq_wrap]
  refine seg_bind_wrap (wpAny_standAt ?_)
  refine seg_bind_wrap (wpAny_onRaise (wpAny_mono h (fun r s₁ h₁ => ?_) fun _ _ q => q.elim))
  obtain ⟨v, rfl, h₁⟩ := h₁
  refine seg_bind_wrap (wpAny_of_eq (rfl : letOwnedTupleGo (.Name x px) it v = pure ()) ?_)
  refine seg_bind_wrap (wpAny_mono h₁ (fun _ s₂ h₂ => ?_) fun _ _ q => q.elim)
  rw [Sem.bind_eq_wrap', Sem.wrap_wrap]
  refine seg_execs_cons ?_
  refine seg_Expr_Yield hfs rfl hfg (wpAny_mono h₂ (fun y s₃ h₃ => ?_) fun _ _ q => q.elim) hco hi
  intro kap hk
  refine h₃ kap fun s'' hseg => hk .none s'' ?_
  show PySem.Seg _ A R Y n s'' _ ((execs [] env).wrap _ _ _ _) fs s''
  exact seg_execs_nil (seg_again rfl hseg)
/-- the loop's end -/
theorem seg_forEnd {x : Str} {px : Pos} {body : List Stmt} {it : Value}
    (h : wpAny (model prog w) (A.over (.forLoop (.Name x px) it body [] env) fs) (pyNext it) (fun r s₁ => r = none ∧ ∀ c', PySem.Seg (model prog w) A R Y n s₀ c' (leafOf (.ok .next)) fs s₁) FF s) :
    PySem.Seg (model prog w) A R Y n s₀ (.forLoop (.Name x px) it body [] env) ((model prog w).den (.forLoop (.Name x px) it body [] env)) fs s := by
  show PySem.Seg _ A R Y _ s₀ _ ((forTurn (.Name x px) it body [] env).onRaise (fun x => do noteFrame x env; theTreesLotGoes x)) fs s
  unfold forTurn
  rw [Sem.onRaise_eq_wrap]
  refine seg_bind_wrap (wpAny_standAt ?_)
  refine seg_bind_wrap (wpAny_onRaise (wpAny_mono h (fun r s₁ h₁ => ?_) fun _ _ q => q.elim))
  obtain ⟨rfl, h₁⟩ := h₁
  exact seg_again rfl (seg_block_nil h₁)
end
end Mine
end
section
open PySem PySem.W PySem.Calls PySem.Spec PyProof.Rows
set_option Elab.async false
set_option maxRecDepth 100000
set_option maxHeartbeats 1000000
set_option linter.unusedVariables false
set_option linter.unusedSimpArgs false
namespace Mine
def Ex (W : List Addr) (h h' : Heap) : Prop := ∀ b o, b ∉ W → h.get? b = some o → h'.get? b = some o
def Priv (o : Obj) : Prop := ∀ it n, o.data ≠ .seq it n
/-- all old objects outside of W, and the new ones that are not private, are kept -/
def ExP (B : Nat) (W : List Addr) (h h' : Heap) : Prop := ∀ b o, b ∉ W → (@LT.lt Nat _ b B ∨ ¬ Priv o) → h.get? b = some o → h'.get? b = some o
theorem ExP.trans {B : Nat} {W : List Addr} {h h' h'' : Heap} (x : ExP B W h h') (y : ExP B W h' h'') : ExP B W h h'' := fun b o hb hp e => y b o hb hp (x b o hb hp e)
theorem ExP.refl (B : Nat) (W : List Addr) (h : Heap) : ExP B W h h := fun _ _ _ _ e => e
theorem ExP.ext {B : Nat} {W : List Addr} {h h' : Heap} (x : Ext h h') : ExP B W h h' := fun b o _ _ e => x b o e
theorem ExP.ex {B : Nat} {W : List Addr} {h h' : Heap} (x : Ex W h h') : ExP B W h h' := fun b o hb _ e => x b o hb e
def GG (g : Nat) (a b : Array GenState) : Prop := (∀ k, k < g → b[k]? = a[k]?) ∧ a.size ≤ b.size ∧ ((∀ k st, g ≤ k → a[k]? = some st → st.bare = true) → ∀ k st, g ≤ k → b[k]? = some st → st.bare = true)
theorem GG.refl (g : Nat) (a : Array GenState) : GG g a a := ⟨fun _ _ => rfl, Nat.le_refl _, fun h => h⟩
theorem GG.trans {g : Nat} {a b c : Array GenState} (x : GG g a b) (y : GG g b c) : GG g a c := ⟨fun k hk => (y.1 k hk).trans (x.1 k hk), Nat.le_trans x.2.1 y.2.1, fun h => y.2.2 (x.2.2 h)⟩
/-- as GG, for what the consumer sees: g itself changes -/
def GH (g : Nat) (a b : Array GenState) : Prop := (∀ k, k < g → b[k]? = a[k]?) ∧ a.size ≤ b.size ∧ ((∀ k st, g + 1 ≤ k → a[k]? = some st → st.bare = true) → ∀ k st, g + 1 ≤ k → b[k]? = some st → st.bare = true)
theorem GH.refl (g : Nat) (a : Array GenState) : GH g a a := ⟨fun _ _ => rfl, Nat.le_refl _, fun h => h⟩
theorem GH.trans {g : Nat} {a b c : Array GenState} (x : GH g a b) (y : GH g b c) : GH g a c := ⟨fun k hk => (y.1 k hk).trans (x.1 k hk), Nat.le_trans x.2.1 y.2.1, fun h => y.2.2 (x.2.2 h)⟩
theorem setGen_ne {s : Shared} {g k : Nat} {x : GenState} (h : k ≠ g) : (s.setGen g x).gens[k]? = s.gens[k]? := by simp [Shared.setGen, Ne.symm h]
theorem setGen_size {s : Shared} {g : Nat} {x : GenState} : (s.setGen g x).gens.size = s.gens.size := by simp [Shared.setGen]
theorem GG.up {g : Nat} {s s₁ : Shared} {x y : GenState} (q : GG (g + 1) (s.setGen g x).gens s₁.gens) : GH g s.gens (s₁.setGen g y).gens := by
  refine ⟨fun k hk => ?_, ?_, fun h k st hk e => ?_⟩
  · rw [setGen_ne (Nat.ne_of_lt hk), q.1 k (Nat.lt_succ_of_lt hk), setGen_ne (Nat.ne_of_lt hk)]
  · rw [setGen_size]; have := q.2.1; rw [setGen_size] at this; exact this
  · rw [setGen_ne (Nat.ne_of_gt hk)] at e
    refine q.2.2 (fun k st hk e => h k st hk ?_) k st hk e
    rw [setGen_ne (Nat.ne_of_gt hk)] at e
    exact e
def GRel (J : Heap → Prop) (B : Nat) (wg : List Addr) (g : Nat) (s s' : Shared) : Prop := ∃ h' tk gs, s' = { s with heap := h', toks := tk, gens := gs } ∧ ExP B wg s.heap h' ∧ GG (g + 1) s.gens gs ∧ (J s.heap → J h')
theorem GRel.refl (J : Heap → Prop) (B : Nat) (wg : List Addr) (g : Nat) (s : Shared) : GRel J B wg g s s := ⟨_, _, _, rfl, ExP.refl _ _ _, GG.refl _ _, fun h => h⟩
theorem GRel.trans {J : Heap → Prop} {B : Nat} {wg : List Addr} {g : Nat} {s s' s'' : Shared} (x : GRel J B wg g s s') (y : GRel J B wg g s' s'') : GRel J B wg g s s'' := by
  obtain ⟨h1, t1, g1, rfl, a1, b1, j1⟩ := x
  obtain ⟨h2, t2, g2, rfl, a2, b2, j2⟩ := y
  exact ⟨h2, t2, g2, rfl, a1.trans a2, b1.trans b2, fun h => j2 (j1 h)⟩
/-- what the consumer may have done between two turns -/
def Aft (wc : List Addr) (g : Nat) (s s'' : Shared) : Prop := Ex wc s.heap s''.heap ∧ (∀ b o, s.heap.get? b = some o → ∃ o', s''.heap.get? b = some o') ∧ s''.gens.size = s.gens.size ∧ ∀ k, k ≠ g → s''.gens[k]? = s.gens[k]?
def RR (J : Heap → Prop) (B : Nat) (wg : List Addr) (g : Nat) : GenEnd := fun n s₀ r s₁ => r = .ok (.ret .none) ∧ (n = 0 ∧ GRel J B wg g s₀ s₁)
def YY (J : Heap → Prop) (B : Nat) (wg wc : List Addr) (g N : Nat) (Out : Nat → Value → Heap → Prop) : Protocol := fun m s₀ v s kap => Out (N - 1 - m) v s.heap ∧ GRel J B wg g s₀ s ∧ ∀ s'', Aft wc g s s'' → kap (.send .none) s''
def GenReady (prog : Program) (w : World) (A : Around) (J : Heap → Prop) (B : Nat) (wg wc : List Addr) (N : Nat) (Out : Nat → Value → Heap → Prop) (a : Addr) (g i : Nat) (s : Shared) : Prop :=
  s.heap.IsGen a g ∧ s.heap.NoLimit ∧ ∃ gs, s.gens[g]? = some gs ∧ ∀ s'', Aft wc g s s'' → gs.Goes (model prog w) A.in1 (RR J B wg g) (YY J B wg wc g N Out) (N - i) (.send .none) s''
section
variable {prog : Program} {w : World} {A : Around} {s : Shared} {J : Heap → Prop} {B : Nat} {wg wc : List Addr} {N : Nat} {Out : Nat → Value → Heap → Prop} {a : Addr} {g i : Nat}
theorem isGen_exp {h h' : Heap} (x : h.IsGen a g) (ha : a ∉ wg) (hb : @LT.lt Nat _ a B) (k : ExP B wg h h') : h'.IsGen a g := let ⟨o, nm, qn, ho, r⟩ := x; ⟨o, nm, qn, k _ _ ha (.inl hb) ho, r⟩
theorem nolim_exp {h h' : Heap} (x : h.NoLimit) (ha : cStatics ∉ wg) (hb : @LT.lt Nat _ cStatics B) (k : ExP B wg h h') : h'.NoLimit := let ⟨mc, hns, hnn⟩ := x; ⟨mc, hns.at' fun o e => k cStatics o ha (.inl hb) e, hnn⟩
theorem setGen_rel {J : Heap → Prop} {B : Nat} {wg : List Addr} {g : Nat} {s s₁ : Shared} {x y : GenState} (q : GRel J B wg g (s.setGen g x) s₁) : ∃ h' tk gs, s₁.setGen g y = { s with heap := h', toks := tk, gens := gs } ∧ ExP B wg s.heap h' ∧ GH g s.gens gs ∧ (J s.heap → J h') := by
  have := q
  obtain ⟨h1, t1, g1, rfl, a1, b1, j1⟩ := q
  exact ⟨_, _, _, rfl, a1, GG.up (x := x) (s₁ := { s.setGen g x with heap := h1, toks := t1, gens := g1 }) b1, j1⟩
theorem gen_item (hh : A.handled = none) (hroom : A.depth < recursionLimit) (h : GenReady prog w A J B wg wc N Out a g i s) (hi : i < N) (ha : a ∉ wg) (hb : @LT.lt Nat _ a B) (hc : cStatics ∉ wg) (hcb : @LT.lt Nat _ cStatics B) :
    wpAny (model prog w) A (pyNext (.ref a)) (fun r s₁ => ∃ v, r = some v ∧ Out i v s₁.heap ∧ GenReady prog w A J B wg wc N Out a g (i + 1) s₁ ∧ ∃ h' tk gs, s₁ = { s with heap := h', toks := tk, gens := gs } ∧ ExP B wg s.heap h' ∧ GH g s.gens gs ∧ (J s.heap → J h')) FF s := by
  obtain ⟨hg, hl, gs, hgs, hgo⟩ := h
  obtain ⟨m, hm⟩ : ∃ m, N - i = m + 1 := ⟨N - i - 1, by omega⟩
  rw [hm] at hgo
  refine wpAny_pyNext_gen (P := fun n s₀ s₁ => n = 0 ∧ GRel J B wg g s₀ s₁) (Y := YY J B wg wc g N Out) hh hl hroom hg hgs (hgo _ ⟨fun _ _ _ e => e, fun _ o e => ⟨o, e⟩, setGen_size, fun k hk => setGen_ne hk⟩) (fun v s₁ gs' hv => ?_) (fun s₁ hp h' hk => ?_)
  · obtain ⟨hO, hR, hk⟩ := hv
    have hidx : N - 1 - (m + 1 - 1) = i := by omega
    rw [hidx] at hO
    have hR' := hR
    obtain ⟨h1, t1, g1, rfl, a1, b1, j1⟩ := hR
    have e1 : (({ s.setGen g .running with heap := h1, toks := t1, gens := g1 } : Shared).setGen g gs').gens[g]? = some gs' := by
      refine setGen_self (gs := .running) ?_
      show g1[g]? = _
      rw [b1.1 g (Nat.lt_succ_self _)]
      exact setGen_self hgs
    refine ⟨v, rfl, hO, ⟨isGen_exp hg ha hb a1, nolim_exp hl hc hcb a1, gs', e1, fun s'' hA => ?_⟩, setGen_rel hR'⟩
    have e2 : N - (i + 1) = m := by omega
    rw [e2]
    refine hk s'' ⟨hA.1, hA.2.1, ?_, fun k hk' => ?_⟩
    · rw [hA.2.2.1, setGen_size]
    · rw [hA.2.2.2 k hk', setGen_ne hk']
  · exact absurd hp.1 (Nat.succ_ne_zero m)
theorem gen_end (je : ∀ h h', J h → Ext h h' → J h') (hh : A.handled = none) (hroom : A.depth < recursionLimit) (h : GenReady prog w A J B wg wc N Out a g N s) :
    wpAny (model prog w) A (pyNext (.ref a)) (fun r s₁ => r = none ∧ s₁.gens[g]? = some .finished ∧ ∃ h' tk gs, s₁ = { s with heap := h', toks := tk, gens := gs } ∧ ExP B wg s.heap h' ∧ GH g s.gens gs ∧ (J s.heap → J h')) FF s := by
  obtain ⟨hg, hl, gs, hgs, hgo⟩ := h
  rw [Nat.sub_self] at hgo
  refine wpAny_pyNext_gen (P := fun n s₀ s₁ => n = 0 ∧ GRel J B wg g s₀ s₁) (Y := YY J B wg wc g N Out) hh hl hroom hg hgs (hgo _ ⟨fun _ _ _ e => e, fun _ o e => ⟨o, e⟩, setGen_size, fun k hk => setGen_ne hk⟩) (fun v s₁ gs' hv => ?_) (fun s₁ hp h' hk => ?_)
  · obtain ⟨_, _, hk⟩ := hv
    exact (hk s₁ ⟨fun _ _ _ e => e, fun _ o e => ⟨o, e⟩, rfl, fun _ _ => rfl⟩).elim
  · obtain ⟨_, hR⟩ := hp
    have hR' := hR
    obtain ⟨h1, t1, g1, rfl, a1, b1, j1⟩ := hR
    have e1 : (({ s.setGen g .running with heap := h1, toks := t1, gens := g1 } : Shared).setGen g .finished).gens[g]? = some .finished := by
      refine setGen_self (gs := .running) ?_
      show g1[g]? = _
      rw [b1.1 g (Nat.lt_succ_self _)]
      exact setGen_self hgs
    refine ⟨rfl, e1, ?_⟩
    obtain ⟨h2, t2, g2, e2, a2, b2, j2⟩ := setGen_rel (y := .finished) hR'
    rw [e2]
    have a3 : h2 = h1 := by have := congrArg Shared.heap e2; exact this.symm
    subst a3
    exact ⟨h', t2, g2, rfl, a2.trans (ExP.ext hk), b2, fun h => je _ _ (j2 h) hk⟩
end
end Mine
end
section
open PySem PySem.W PySem.Calls PySem.Spec PyProof.Rows
set_option Elab.async false
set_option maxRecDepth 100000
set_option maxHeartbeats 1000000
set_option linter.unusedVariables false
set_option linter.unusedSimpArgs false
namespace Mine
section
variable {prog : Program} {w : World} {A : Around} {s : Shared} {J : Heap → Prop} {B : Nat} {wg wc : List Addr} {N : Nat} {Out : Nat → Value → Heap → Prop} {a : Addr} {g i : Nat}
theorem ready_aft {h' : Heap} {tk : Nat} (x : GenReady prog w A J B wg wc N Out a g i s) (ha : a ∉ wc) (hc : cStatics ∉ wc) (e : Ex wc s.heap h') (lv : ∀ b o, s.heap.get? b = some o → ∃ o', h'.get? b = some o') : GenReady prog w A J B wg wc N Out a g i { s with heap := h', toks := tk } := by
  obtain ⟨⟨o, nm, qn, ho, r⟩, ⟨mc, hns, hnn⟩, gs, hgs, hgo⟩ := x
  exact ⟨⟨o, nm, qn, e _ _ ha ho, r⟩, ⟨mc, hns.at' fun o q => e cStatics o hc q, hnn⟩, gs, hgs, fun s'' hA => hgo s'' ⟨fun b o hb q => hA.1 b o hb (e b o hb q), fun b o q => let ⟨o', q'⟩ := lv b o q; hA.2.1 b o' q', hA.2.2⟩⟩
theorem compT_gen {cenv : Env} {x : Str} {px : Pos} {elt : Expr} {D Z : Addr} {SPre : Heap → Prop} {Has : Value → Heap → Prop} {Fin : Shared → Prop} {G : Nat → Value → Heap → Prop}
    (hh : A.handled = none) (hroom : A.depth < recursionLimit) (hN : N ≤ sizeLine) (Tg : Tgt prog w A cenv x px Z SPre Has) (hDZ : D ≠ Z)
    (ha : a ∉ wg) (hab : @LT.lt Nat _ a B) (hc : cStatics ∉ wg) (hcb : @LT.lt Nat _ cStatics B) (haw : a ∉ [D, Z]) (hcw : cStatics ∉ [D, Z]) (hw : ∀ b, b ∈ wg → @LT.lt Nat _ b B) (hDg : D ∉ wg) (hZg : Z ∉ wg) (lD : @LT.lt Nat _ D B) (lZ : @LT.lt Nat _ Z B)
    (jk : ∀ h h', J h → Ex [D, Z] h h' → J h') (hJ : J s.heap) (hr : GenReady prog w A J B wg [D, Z] N Out a g 0 s) (hD : s.heap.get? D = some (LCg.lst [])) (hP : SPre s.heap)
    (mono : ∀ i y h h', G i y h → (∀ b o, @LE.le Nat _ B b → ¬ Priv o → h.get? b = some o → h'.get? b = some o) → G i y h')
    (omono : ∀ i y h h', Out i y h → (∀ b o, @LE.le Nat _ B b → ¬ Priv o → h.get? b = some o → h'.get? b = some o) → Out i y h')
    (el : ∀ i v (s' : Shared), i < N → Out i v s'.heap → Has v s'.heap → ExP B (D :: Z :: wg) s.heap s'.heap →
      wpAny (model prog w) A (eval elt cenv) (fun y s'' => G i y s''.heap ∧ Keeps s' s'') FF s')
    (fin : ∀ h' tk gs ys, ExP B (D :: Z :: wg) s.heap h' → SPre h' → J h' → h'.get? D = some (LCg.lst ys) → ys.length = N → (∀ j y, ys[j]? = some y → G j y h') → GH g s.gens gs → gs[g]? = some .finished → Fin { s with heap := h', toks := tk, gens := gs }) :
    CompT prog w A (.ref a) D cenv (.Name x px) elt Fin N s := by
  have upw : ∀ {h h' : Heap} {b : Addr}, (∀ c o, c ≠ b → h.get? c = some o → h'.get? c = some o) → @LT.lt Nat _ b B → ∀ c o, @LE.le Nat _ B c → ¬ Priv o → h.get? c = some o → h'.get? c = some o := fun k hb c o hc _ e => k c o (fun q => by rw [q] at hc; exact Nat.lt_irrefl _ (Nat.lt_of_lt_of_le hb hc)) e
  have upx : ∀ {h h' : Heap}, ExP B wg h h' → (∀ b, b ∈ wg → @LT.lt Nat _ b B) → ∀ c o, @LE.le Nat _ B c → ¬ Priv o → h.get? c = some o → h'.get? c = some o := fun k hw c o hc hp e => k c o (fun q => Nat.lt_irrefl _ (Nat.lt_of_lt_of_le (hw c q) hc)) (.inr hp) e
  have key : ∀ (wlt : ∀ b, b ∈ wg → @LT.lt Nat _ b B) (j i : Nat) (h : Heap) (tk : Nat) (gs : Array GenState) (ys : List Value), i + j = N → GenReady prog w A J B wg [D, Z] N Out a g i { s with heap := h, toks := tk, gens := gs } → SPre h → J h → h.get? D = some (LCg.lst ys) → ys.length = i → (∀ j y, ys[j]? = some y → G j y h) → ExP B (D :: Z :: wg) s.heap h → GH g s.gens gs →
      CompT prog w A (.ref a) D cenv (.Name x px) elt Fin j { s with heap := h, toks := tk, gens := gs } := by
    intro wlt j
    induction j with
    | zero =>
      intro i h tk gs ys hi hr hp hj hd hl hg hk hG
      have e : i = N := by omega
      subst e
      refine wpAny_mono (gen_end (fun h h' q e => jk h h' q fun b o _ q => e b o q) hh hroom hr) (fun r s₁ q => ?_) fun _ _ q => q
      obtain ⟨rfl, hf, h1, t1, g1, rfl, a1, b1, j1⟩ := q
      refine ⟨rfl, fin h1 t1 g1 ys (fun b o hb hp e => a1 b o (fun q => hb (List.mem_cons_of_mem _ (List.mem_cons_of_mem _ q))) hp (hk b o hb hp e)) ?_ (j1 hj) (a1 _ _ hDg (.inl lD) hd) hl ?_ (hG.trans b1) hf⟩
      · exact Tg.keepP _ _ hp fun o e => a1 _ _ hZg (.inl lZ) e
      · exact fun j y hy => mono _ _ _ _ (hg j y hy) (upx a1 wlt)
    | succ j ih =>
      intro i h tk gs ys hi hr hp hj hd hl hg hk hG
      have hlt : i < N := by omega
      refine wpAny_mono (gen_item hh hroom hr hlt ha hab hc hcb) (fun r s₁ q => ?_) fun _ _ q => q
      obtain ⟨v, rfl, hO, hr1, h1, t1, g1, rfl, a1, b1, j1⟩ := q
      dsimp only at hO a1 b1 j1
      refine ⟨v, rfl, ?_⟩
      have hp1 := Tg.keepP _ h1 hp fun o e => a1 _ _ hZg (.inl lZ) e
      refine Tg.asg v _ _ hp1 fun h2 tk2 hv2 hs2 => ?_
      have k2 : ∀ b o, b ≠ Z → h1.get? b = some o → h2.get? b = some o := fun b o hb e => hs2.extBut b o hb e
      have hd2 : h2.get? D = some (LCg.lst ys) := k2 _ _ hDZ (a1 _ _ hDg (.inl lD) hd)
      have off2 : ExP B (D :: Z :: wg) s.heap h2 := fun b o hb hp e => k2 b o (fun q => hb (q ▸ List.mem_cons_of_mem _ (List.mem_cons_self ..))) (a1 b o (fun q => hb (List.mem_cons_of_mem _ (List.mem_cons_of_mem _ q))) hp (hk b o hb hp e))
      have hr2 := ready_aft (tk := tk2) hr1 haw hcw (h' := h2) (fun b o hb e => k2 b o (fun q => hb (q ▸ List.mem_cons_of_mem _ (List.mem_singleton.mpr rfl))) e) fun b o e => by
        by_cases hb : b = Z
        · subst hb; exact Tg.live _ (Tg.pre _ _ hv2)
        · exact ⟨o, k2 b o hb e⟩
      have hO2 := omono _ _ _ h2 hO (upw (b := Z) k2 lZ)
      refine wpAny_mono (el i v _ hlt hO2 hv2 off2) (fun y s3 q => ?_) fun _ _ q => q
      obtain ⟨hGy, h3, tk3, rfl, hk3⟩ := q
      dsimp only at hk3 hGy
      refine append_at (hsz := by show ys.toArray.size ≤ sizeLine; rw [List.size_toArray, hl]; exact Nat.le_trans (Nat.le_of_lt hlt) hN) (hk3 _ _ hd2) fun h4 hs4 hD4 => ?_
      have k4 : ∀ b o, b ≠ D → h3.get? b = some o → h4.get? b = some o := fun b o hb e => hs4.extBut b o hb e
      have hp4 : SPre h4 := Tg.keepP _ _ (Tg.keepP _ h3 (Tg.pre _ _ hv2) fun o e => hk3 _ o e) fun o e => k4 _ o (Ne.symm hDZ) e
      have hr4 := ready_aft (tk := tk3) hr2 haw hcw (h' := h4) (fun b o hb e => k4 b o (fun q => hb (q ▸ List.mem_cons_self ..)) (hk3 _ _ e)) fun b o e => by
        by_cases hb : b = D
        · subst hb; exact ⟨_, hD4⟩
        · exact ⟨o, k4 b o hb (hk3 _ _ e)⟩
      have up4 := upw (b := D) k4 lD
      refine ih (i + 1) h4 tk3 g1 (ys ++ [y]) (by omega) hr4 hp4 (jk _ _ (jk _ _ (jk _ _ (j1 hj) fun b o hb e => k2 b o (fun q => hb (q ▸ List.mem_cons_of_mem _ (List.mem_singleton.mpr rfl))) e) fun b o _ e => hk3 _ _ e) fun b o hb e => k4 b o (fun q => hb (q ▸ List.mem_cons_self ..)) e) (hD4.trans (congrArg some (LCg.lst_snoc ys y))) (by rw [List.length_append, List.length_singleton, hl]) ?_ (fun b o hb hp e => k4 b o (fun q => hb (q ▸ List.mem_cons_self ..)) (hk3 _ _ (off2 b o hb hp e))) (hG.trans b1)
      intro j' y' hy'
      rcases Nat.lt_or_ge j' ys.length with q | q
      · rw [List.getElem?_append_left q] at hy'
        refine mono _ _ _ _ (hg j' y' hy') fun b o hb hp e => up4 b o hb hp (hk3 b o (upw (b := Z) k2 lZ b o hb hp (upx a1 wlt b o hb hp e)))
      · rw [List.getElem?_append_right q] at hy'
        have e0 : j' - ys.length = 0 := by
          rcases Nat.eq_zero_or_pos (j' - ys.length) with z | z
          · exact z
          · rw [List.getElem?_eq_none (by simp; omega)] at hy'; cases hy'
        rw [e0] at hy'
        have ey : y = y' := Option.some.inj hy'
        have ej : j' = i := by omega
        subst ey ej
        exact mono _ _ _ _ hGy up4
  exact key hw N 0 s.heap s.toks s.gens [] (by omega) hr hP hJ hD rfl (fun j y hy => by simp at hy) (ExP.refl _ _ _) (GH.refl _ _)
end
end Mine
end
section
open PySem PySem.W PySem.Calls PySem.Spec PyProof.Rows
set_option Elab.async false
set_option maxRecDepth 100000
set_option maxHeartbeats 1000000
set_option linter.unusedVariables false
set_option linter.unusedSimpArgs false
namespace Mine
section
variable {prog : Program} {w : World} {A : Around} {E : Value → Shared → Prop} {s : Shared} {env : Env}
/-- an assignment of a list comprehension to a local name: the name is bound before the clause's names go -/
theorem comp_LU {elt iter : Expr} {x y : Str} {px py : Pos} {scope : Scope} {cl : List (Str × Addr)} {pos spos : Pos} {Q : Flow → Shared → Prop}
    (hsw : swapsWith (.ListComp elt [⟨.Name x px, iter, [], 0⟩] scope pos) (some (.Name y py)) spos.line env = pure true)
    (hclos : closureFor scope env = pure cl) (hcell : ∀ y ∈ scope.names, y.2 ≠ .cell) (hkind : scope.kind = .function) (hnames : ∀ y ∈ scope.names, y.2 = .local → scope.names.lookup y.1 = some .local)
    (h : wpAny (model prog w) A (eval iter env) (fun xv s₁ => wpAny (model prog w) A (pyIter xv) (fun it s₂ =>
      ∀ h₄ tk, Ext s₂.heap h₄ → h₄.objs.size = s₂.heap.objs.size + 2 → h₄.get? s₂.heap.objs.size = some (LCg.lst []) → h₄.Ns (s₂.heap.objs.size + 1) (fun _ => none) →
        (∀ (Q' : Value → Shared → Prop), Q' it { s₂ with heap := h₄, toks := tk } → wpAny (model prog w) A (pyIter it) Q' FF { s₂ with heap := h₄, toks := tk }) ∧
        ∃ n, CompT prog w A it s₂.heap.objs.size (compEnvC scope cl (s₂.heap.objs.size + 1) env) (.Name x px) elt
          (fun s' => wpAny (model prog w) A (assign (.Name y py) env (.ref s₂.heap.objs.size)) (fun _ s'' => ∃ m, s''.heap.Ns (s₂.heap.objs.size + 1) m ∧ ∀ h', Heap.SameBut (s₂.heap.objs.size + 1) s''.heap h' → Q .next { s'' with heap := h' }) E s') n { s₂ with heap := h₄, toks := tk }) E s₁) E s)
    (hs : ∀ x, foldedSetIterable iter env x = pure x := by intro _; rfl) :
    wpAny (model prog w) A (exec (.Assign [.Name y py] (.ListComp elt [⟨.Name x px, iter, [], 0⟩] scope pos) spos) env) Q E s := by
  rw [exec_Assign_Name_used _ _ _ _ hsw]
  refine wpAny_bind (wpAny_standAt (wpAny_bind ?_))
  show wpAny _ A (do let _ ← comprehension (.ListComp elt [⟨.Name x px, iter, [], 0⟩] scope pos) scope env _ (newList []) false (eval iter env) (some (assign (.Name y py) env))) _ _ s
  refine wpAny_bind (wpAny_mono (wpAny_comprehension_free (use := some (assign (.Name y py) env)) (Q := fun _ s' => Q .next s') rfl hs hclos hkind hnames
    (wpAny_mono h (fun xv s₁ h₁ => wpAny_mono h₁ (fun it s₂ h₂ => ?_) fun _ _ e => e) fun _ _ e => e)) (fun _ s' hq => wpAny_pure (wpAny_pure hq)) fun _ _ e => e)
  refine wpAny_newObj_type (wpAny_newFunctionEnv hcell (by intro y hy; simp at hy) (fun h₁ hns₁ hsb₁ => ?_) hkind)
  dsimp only at hns₁ hsb₁ ⊢
  have hC : (s₂.heap.push { cls := .type "list", dict := none, data := .seq ([] : List Value).toArray }).objs.size = s₂.heap.objs.size + 1 := Heap.size_push ..
  rw [hC] at hns₁ hsb₁
  have up : Ext s₂.heap h₁ := fun b o e => hsb₁.extBut b o (Nat.ne_of_lt (Nat.lt_succ_of_lt (Heap.lt_size e))) (Heap.get?_push_of_some _ (Heap.get?_push_of_some _ e))
  have hD : h₁.get? s₂.heap.objs.size = some (LCg.lst []) := hsb₁.extBut _ _ (Nat.ne_of_lt (Nat.lt_succ_self _)) (Heap.get?_push_of_some _ (Heap.get?_push_size _ rfl))
  have hsz : h₁.objs.size = s₂.heap.objs.size + 2 := by rw [hsb₁.1, Heap.size_push, hC]
  have hns : h₁.Ns (s₂.heap.objs.size + 1) (fun _ => none) := by
    have e : (fun x : Str => ([] : List (Str × Value)).reverse.lookup x) = fun _ => none := by funext x; rfl
    rw [e] at hns₁; exact hns₁
  obtain ⟨hself, n, ht⟩ := h₂ h₁ (s₂.toks + ([] : List (Str × Value)).length) up hsz hD hns
  rw [hC]
  have loop : codeAny (model prog w) A (.compLoop (.ListComp elt [⟨.Name x px, iter, [], 0⟩] scope pos) 0 it (.ref s₂.heap.objs.size) (compEnvC scope cl (s₂.heap.objs.size + 1) env)) (compPost (model prog w) A E (some (assign (.Name y py) env)) (fun _ s' => Q .next s') (.ref s₂.heap.objs.size) (s₂.heap.objs.size + 1)) { s₂ with heap := h₁, toks := s₂.toks + ([] : List (Str × Value)).length } :=
    compT_loop n ht fun s' q => q
  exact codeAny_compStart_list loop (wpAny_mono (hself _ loop) (fun _ _ q => q) fun _ _ q => q.elim)
theorem comp_range_LU {elt iter : Expr} {x y : Str} {px py : Pos} {scope : Scope} {cl : List (Str × Addr)} {pos spos : Pos} {Q : Flow → Shared → Prop} {a : Int} {n : Nat} {G : Nat → Nat → Value → Heap → Prop} {m₀ : Str → Option Value}
    (hsw : swapsWith (.ListComp elt [⟨.Name x px, iter, [], 0⟩] scope pos) (some (.Name y py)) spos.line env = pure true) (hy : env.kindOf y = some .local) (hek : env.scope.kind = .function) (hn₀ : s.heap.Ns env.locals m₀)
    (hclos : closureFor scope env = pure cl) (hcell : ∀ y ∈ scope.names, y.2 ≠ .cell) (hkind : scope.kind = .function) (hnames : ∀ y ∈ scope.names, y.2 = .local → scope.names.lookup y.1 = some .local) (hx : scope.names.lookup x = some .local)
    (hh : A.handled = none) (hs : ∀ x, foldedSetIterable iter env x = pure x)
    (hit : wpAny (model prog w) A (eval iter env) (fun xv s₁ => Keeps s s₁ ∧ ∃ r t u v, xv = .ref r ∧ IsRange s₁.heap r a (a + n) 1 t u v) E s)
    (hsm : Builtin.Range.small a (a + n) 1 = true) (hn : Builtin.Range.rangeSize a (a + n) 1 = ((n : Nat) : Int)) (hsz : n ≤ sizeLine)
    (mono : ∀ B i y h h', G B i y h → (∀ b o, @LE.le Nat _ B b → h.get? b = some o → h'.get? b = some o) → G B i y h')
    (el : ∀ B C i t h' tk, i < n → HasL C x (.int (a + (i : Int)) t) h' → Ext s.heap h' → Lv B h' →
      wpAny (model prog w) A (eval elt (compEnvC scope cl C env)) (fun y s'' => G B i y s''.heap ∧ Keeps { s with heap := h', toks := tk } s'') FF { s with heap := h', toks := tk })
    (ret : ∀ B D ys h' tk, Ex [env.locals] s.heap h' → h'.Ns env.locals (fun z => if z = y then some (.ref D) else m₀ z) → (∀ b o, s.heap.get? b = some o → b ≠ D) → h'.get? D = some (LCg.lst ys) → ys.length = n → (∀ j y, ys[j]? = some y → G B j y h') → @LT.lt Nat _ D B → Q .next { s with heap := h', toks := tk }) :
    wpAny (model prog w) A (exec (.Assign [.Name y py] (.ListComp elt [⟨.Name x px, iter, [], 0⟩] scope pos) spos) env) Q E s := by
  refine comp_LU hsw hclos hcell hkind hnames (wpAny_mono hit (fun xv s₁ q => ?_) fun _ _ e => e) hs
  obtain ⟨⟨h1, tk1, rfl, e1⟩, r, t, u, v, rfl, hr⟩ := q
  refine wpAny_pyIter_range hr hsm ?_
  intro h₄ tk e4 hsz4 hD hns
  dsimp only at hsz4 hD hns e4 ⊢
  have hp : (h1.push { cls := .type "range_iterator", data := .fields #[rawInt a, rawInt (Builtin.Range.rangeSize a (a + n) 1), rawInt 1] }).objs.size = h1.objs.size + 1 := by rw [Heap.size_push]
  rw [hp] at hsz4 hD hns ⊢
  have hst0 : IsRangeIter (h1.push { cls := .type "range_iterator", data := .fields #[rawInt a, rawInt (Builtin.Range.rangeSize a (a + n) 1), rawInt 1] }) h1.objs.size a ((n : Nat) : Int) 1 := by
    rw [hn]; exact Heap.get?_push_size _ rfl
  have hst := e4 _ _ hst0
  have lt : ∀ b o, s.heap.get? b = some o → @LT.lt Nat _ b h1.objs.size := fun b o e => Heap.lt_size (e1 b o e)
  have ext : Ext s.heap h₄ := fun b o e => e4 b o (Heap.get?_push_of_some _ (e1 b o e))
  have lL : @LT.lt Nat _ env.locals h1.objs.size := by obtain ⟨o, _, _, ho, _⟩ := hn₀; exact lt _ _ ho
  generalize h1.objs.size = I at *
  have W := LCg.range_walks (prog := prog) (w := w) (A := A) (I := I) hh a n
  have st0 : IsRangeIter h₄ I (a + ((0 : Nat) : Int) * 1) ((n : Int) - ((0 : Nat) : Int)) 1 := by simpa using hst
  refine ⟨fun Q' q => W.self 0 _ _ _ st0 q, n, ?_⟩
  refine compT_walk (s := { s with heap := h₄ }) (h₄ := h₄) (G := G h₄.objs.size) W hsz (tgt_L hx hkind) (I := I) (D := I + 1) (Z := I + 1 + 1) na1 na2 na1 (fun hm => na1 (List.mem_singleton.mp hm).symm) (fun hm => na2 (List.mem_singleton.mp hm).symm) (by rw [hsz4]; exact Nat.lt_succ_of_lt (Nat.lt_succ_of_lt (Nat.lt_succ_self _))) (by rw [hsz4]; exact Nat.lt_succ_of_lt (Nat.lt_succ_self _)) hsz4 st0 hD ⟨_, hns⟩ (mono _) ?_ ?_
  · intro i v h' tk' hi hv hL hoff hle
    obtain ⟨t', rfl⟩ := hv
    exact el _ _ i t' h' tk' hi hL (fun b o e => hoff b o (nlt (lt b o e)).1 (nlt (lt b o e)).2.1 (nlt (lt b o e)).2.2.1 (ext b o e)) hle
  · intro h' tk' ys hoff hp' hd' hl' hg'
    obtain ⟨m, hm⟩ := hp'
    have kp : ∀ b o, s.heap.get? b = some o → h'.get? b = some o := fun b o e => hoff b o (nlt (lt b o e)).1 (nlt (lt b o e)).2.1 (nlt (lt b o e)).2.2.1 (ext b o e)
    have nL := nlt lL
    refine wpAny_assign_Name (wpAny_storeName_local hy (hn₀.at' fun o e => kp _ o e) (fun h₂ hn₂ hs₂ => ?_) (by rw [hek]; rfl))
    have hI2 : I + 1 + 1 ≠ env.locals := fun q => nL.2.2.1 q.symm
    refine ⟨m, hm.sameBut hs₂ hI2, fun h'' hs'' => ret h₄.objs.size (I + 1) ys h'' _ (fun b o hb e => ?_) (hn₂.sameBut hs'' (Ne.symm hI2)) (fun b o e => (nlt (lt b o e)).2.1) ((hs''.2 _ na1).trans ((hs₂.2 _ (Ne.symm nL.2.1)).trans hd')) hl' (fun j y hy => mono _ _ _ _ _ (hg' j y hy) fun b o hb e => hs''.extBut b o (fun q => by rw [q, hsz4] at hb; exact Nat.lt_irrefl _ hb) (hs₂.extBut b o (fun q => ?_) e)) ?_⟩
    · exact hs''.extBut b o (nlt (lt b o e)).2.2.1 (hs₂.extBut b o (fun q => hb (List.mem_singleton.mpr q)) (kp b o e))
    · rw [q, hsz4] at hb
      exact Nat.lt_irrefl _ (Nat.lt_of_lt_of_le lL (Nat.le_trans (Nat.le_add_right I 3) hb))
    · rw [hsz4]; exact Nat.lt_succ_of_lt (Nat.lt_succ_self _)
end
end Mine
end
section
local macro_rules | `(tactic| walk_at "mine pad 0") => `(tactic| skip)
local macro_rules | `(tactic| walk_at "mine pad 1") => `(tactic| skip)
local macro_rules | `(tactic| walk_at "mine pad 2") => `(tactic| skip)
local macro_rules | `(tactic| walk_at "mine pad 3") => `(tactic| skip)
local macro_rules | `(tactic| walk_at "mine pad 4") => `(tactic| skip)
local macro_rules | `(tactic| walk_at "mine pad 5") => `(tactic| skip)
local macro_rules | `(tactic| walk_at "mine pad 6") => `(tactic| skip)
local macro_rules | `(tactic| walk_at "mine pad 7") => `(tactic| skip)
local macro_rules | `(tactic| walk_at "mine pad 8") => `(tactic| skip)
local macro_rules | `(tactic| walk_at "mine pad 9") => `(tactic| skip)
local macro_rules | `(tactic| walk_at "mine pad 10") => `(tactic| skip)
local macro_rules | `(tactic| walk_at "mine pad 11") => `(tactic| skip)
local macro_rules | `(tactic| walk_at "mine pad 12") => `(tactic| skip)
local macro_rules | `(tactic| walk_at "mine pad 13") => `(tactic| skip)
open PySem PySem.W PySem.Calls PySem.Spec PyProof.Rows
set_option Elab.async false
set_option maxRecDepth 100000
set_option maxHeartbeats 1000000
set_option linter.unusedVariables false
set_option linter.unusedSimpArgs false
namespace Mine
/-- a def's statements and its scope, read out of the program -/
def defSt (nm : Str) : Option (List Stmt × Scope) := PySem.Challenge.rw_ez0208_01.row.prog.main.body.findSome? fun st => match st with
  | .FunctionDef name _ body _ _ _ scope _ _ _ => if name == nm then some (body, scope) else none
  | _ => none
def bodyOf (o : Option (List Stmt × Scope)) : List Stmt := match o with | some p => p.1 | none => []
def scopeOf (o : Option (List Stmt × Scope)) : Scope := match o with | some p => p.2 | none => default
def rowsBody : List Stmt := bodyOf (defSt (Str.ofString "rows_from_range"))
def rowsScope : Scope := scopeOf (defSt (Str.ofString "rows_from_range"))
def colsBody : List Stmt := bodyOf (defSt (Str.ofString "cols_from_range"))
def colsScope : Scope := scopeOf (defSt (Str.ofString "cols_from_range"))
def rowsEnv (L : Addr) : Env := envOfC (Str.ofString "rows_from_range") rowsScope L 78 (.ref 77)
def colsEnv (L : Addr) : Env := envOfC (Str.ofString "cols_from_range") colsScope L 85 (.ref 84)
theorem fillK18 : PySem.Challenge.rw_ez0208_01 = PySem.Challenge.rw_ez0208_01 → (∀ P, Mine.hd.heap_39 P = Mine.hd.heap_39 P) := by k_fill; intros; rfl
theorem ex_ext {W : List Addr} {h h' : Heap} (x : Ext h h') : Ex W h h' := fun b o _ e => x b o e
theorem ex_trans {W : List Addr} {h h' h'' : Heap} (x : Ex W h h') (y : Ex W h' h'') : Ex W h h'' := fun b o hb e => y b o hb (x b o hb e)
theorem ex_same {L : Addr} {h h' : Heap} (x : Heap.SameBut L h h') : Ex [L] h h' := fun b o hb e => x.extBut b o (fun q => hb (List.mem_singleton.mpr q)) e
theorem range_ne {h : Heap} {L R : Addr} {m : Str → Option Value} {a b c : Int} {t u v : Tok} (n : h.Ns L m) (g : IsRange h R a b c t u v) : R ≠ L := by
  rintro rfl
  obtain ⟨o, _, _, ho, hd, _⟩ := n
  have e := g.symm.trans ho
  cases e
  cases hd
/-- a tuple of four ints -/
def TupAt (s : Shared) (l tp r b : Int) (v : Value) (s₁ : Shared) : Prop := Keeps s s₁ ∧ ∃ D t1 t2 t3 t4, v = .ref D ∧ s₁.heap.get? D = some (tupObj [.int l t1, .int tp t2, .int r t3, .int b t4])
theorem asg4 {prog : Program} {w : World} {A : Around} {s : Shared} {env : Env} {a b c d : Str} {pa pb pc pd pos : Pos} {k : Nat} {D : Addr} {va vb vc vd : Value} {m : Str → Option Value} {Q : Unit → Shared → Prop}
    (hh : A.handled = none) (ha : env.kindOf a = some .local) (hb : env.kindOf b = some .local) (hc : env.kindOf c = some .local) (hd : env.kindOf d = some .local) (hk : env.scope.kind = .function)
    (ns : s.heap.Ns env.locals m) (hD : s.heap.get? D = some (tupObj [va, vb, vc, vd]))
    (h : ∀ h' tk, Ex [env.locals] s.heap h' → h'.Ns env.locals (fun y => if y = d then some vd else if y = c then some vc else if y = b then some vb else if y = a then some va else m y) → Q () { s with heap := h', toks := tk }) :
    wpAny (model prog w) A (assign (.Tuple [.Name a pa, .Name b pb, .Name c pc, .Name d pd] k pos) env (.ref D)) Q FF s := by
  have hp : (env.scope.kind == .class || (env.scope.kind == .module && env.locals != env.globals)) = false := by rw [hk]; rfl
  refine assign_Tuple_tuple (items := #[va, vb, vc, vd]) hh ⟨_, hD, rfl, _, rfl⟩ rfl rfl fun h1 e1 => ?_
  have lt : ∀ b o, s.heap.get? b = some o → b ≠ s.heap.objs.size := fun b o e => Nat.ne_of_lt (Heap.lt_size e)
  have x1 : Ext s.heap h1 := fun b o e => e1 b o (lt b o e) e
  refine assignInOrder_cons (wpAny_assign_Name (wpAny_storeName_local ha (ns.at' fun o e => x1 _ o e) (fun h2 n2 s2 => ?_) hp))
  refine assignInOrder_cons (wpAny_assign_Name (wpAny_storeName_local hb n2 (fun h3 n3 s3 => ?_) hp))
  refine assignInOrder_cons (wpAny_assign_Name (wpAny_storeName_local hc n3 (fun h4 n4 s4 => ?_) hp))
  refine assignInOrder_cons (wpAny_assign_Name (wpAny_storeName_local hd n4 (fun h5 n5 s5 => ?_) hp))
  exact assignInOrder_nil (h h5 _ (ex_trans (ex_ext x1) (ex_trans (ex_same s2) (ex_trans (ex_same s3) (ex_trans (ex_same s4) (ex_same s5))))) n5)
theorem nm_localE {M : Model} {A : Around} {E : Value → Shared → Prop} {s : Shared} {x : Str} {pos : Pos} {v : Value} {Q : Value → Shared → Prop} {name : Str} {scope : Scope} {L a : Addr} {cd : Value} {m : Str → Option Value} (ns : s.heap.Ns L m) (hv : m x = some v) (h : Q v s) (hk : (envOfC name scope L a cd).scope.kind = .function := by rfl) (hl : (envOfC name scope L a cd).kindOf x = some .local := by rfl) (hd : (x == ("__debug__" : Str)) = false := by decide) : wpAny M A (eval (.Name x pos) (envOfC name scope L a cd)) Q E s :=
  nm_local (env := envOfC name scope L a cd) ns hv h hk hl hd
local macro_rules | `(tactic| walk_at "eval Name") => `(tactic| (k_dflt (first
  | (name_kind "local"; refine nm_hasLC (by with_reducible assumption) ?_)
  | (name_kind "local"; refine nm_localE (by with_reducible assumption) (by with_reducible assumption) ?_)
  | (name_kind "free"; refine' nm_cell ?hv ?_ ?hc; (case hc => rfl); (case hv => with_reducible assumption))
  | (name_kind "cell"; refine' nm_cell ?hv ?_ ?hc; (case hc => rfl); (case hv => with_reducible assumption))
  | (name_kind "globalImplicit"; refine nm_glob (by with_reducible assumption) (by with_reducible assumption) (by k_is) ?_)
  | (name_kind "globalImplicit"; refine nm_built (by with_reducible assumption) (by with_reducible assumption) (by k_is) (by boot_by_name) (by decide) ?_))))
theorem rng2n {prog : Program} {w : World} {A : Around} {E : Value → Shared → Prop} {s : Shared} {Q : Value → Shared → Prop} {a b : Int} {t u : Tok} (h : ∀ h' tk r t' u' v', Ext s.heap h' → (∀ b o, s.heap.get? b = some o → b ≠ r) → IsRange h' r a b 1 t' u' v' → Q (.ref r) { s with heap := h', toks := tk }) :
    wpAny (model prog w) A (call (.type "range") [.int a t, .int b u]) Q E s :=
  call_range_2 (h _ _ _ _ _ _ (fun _ _ e => Heap.get?_push_of_some _ e) (fun _ _ e => Nat.ne_of_lt (Heap.lt_size e)) (IsRange.new ..))
def RangeNew (s : Shared) (a b : Int) (xv : Value) (s₁ : Shared) : Prop := Keeps s s₁ ∧ ∃ r t u v, xv = .ref r ∧ (∀ b o, s.heap.get? b = some o → b ≠ r) ∧ IsRange s₁.heap r a b 1 t u v
local macro_rules | `(tactic| walk_at "call type:range") => `(tactic| (k_dflt (refine rng2n ?_); intro h' tk' r' t' u' v' e' hf' hr'))
local macro_rules | `(tactic| walk_at "RangeNew") => `(tactic| (exact ⟨⟨_, _, rfl, by assumption⟩, _, _, _, _, rfl, by assumption, by assumption⟩))
theorem rb_e {w : World} {mg mb : Str → Option Value} {d u : Nat} {fr : Option (List Env)} {gd : Option (List Code)} {s : Shared} {Q E : Value → Shared → Prop} {x y : Str} {l tp r b : Int} {q : Nat} {t : Tok}
    (X : (Mine.hd.heap_39 w.params).In s.heap) (T : TopRead Mine.hd.view_39 LO mg mb s.heap)
    (hd : d + 16 < recursionLimit) (hu : u + 200 < cLine) (K : Told x y (some l) (some tp) (some r) (some b) q)
    (ret : ∀ D h' tk' (t1 t2 t3 t4 : Tok), Ext s.heap h' → h'.get? D = some (tupObj [.int l t1, .int tp t2, .int r t3, .int b t4]) → Q (.ref D) { s with heap := h', toks := tk' }) :
    wpAny (model PySem.Challenge.rw_ez0208_01.row.prog w) ⟨none, d, fr, gd, u⟩ (call (.ref 73) [.str x t] []) Q E s :=
  rb_c X T hd hu K.bounds fun D h' tk' t1 t2 t3 t4 _ e _ g => ret D h' tk' t1 t2 t3 t4 e g
local macro_rules | `(tactic| walk_at "call ref") => `(tactic| ((with_reducible show wpAny _ _ (call (Value.ref 73) [Value.str _ _] _) _ _ _); k_dflt (refine rb_e (by with_reducible assumption) (by with_reducible assumption) (by omega) (by omega) (by with_reducible assumption) ?_); intro D' h' tk' t1' t2' t3' t4' e' g'))
theorem rows_s0 : ∀ {w : World} {mg mb : Str → Option Value} {d u : Nat} {fr : Option (List Env)} {gd : Option (List Code)} {s : Shared} {L : Addr} {m : Str → Option Value} {txt y : Str} {tx : Tok} {l tp r b : Int} {q : Nat} {Q : Flow → Shared → Prop}
    (X : (Mine.hd.heap_39 w.params).In s.heap) (T : TopRead Mine.hd.view_39 LO mg mb s.heap) (hd : d + 90 < recursionLimit) (hu : u + 900 < cLine) (ns : s.heap.Ns L m) (em : m (Str.ofString "range_string") = some (.str txt tx)) (K : Told txt y (some l) (some tp) (some r) (some b) q)
    (ret : ∀ h' tk m' t1 t2 t3 t4, Ex [L] s.heap h' → h'.Ns L m' → m' (Str.ofString "min_col") = some (.int l t1) → m' (Str.ofString "min_row") = some (.int tp t2) → m' (Str.ofString "max_col") = some (.int r t3) → m' (Str.ofString "max_row") = some (.int b t4) → Q .next { s with heap := h', toks := tk }),
    wpAny (model PySem.Challenge.rw_ez0208_01.row.prog w) ⟨none, d, fr, gd, u⟩ (execs (rowsBody.take 1) (rowsEnv L)) Q FF s := by
  k_fill
  intro w mg mb d u fr gd s L m txt y tx l tp r b q Q X T hd hu ns em K ret
  have eS : rowsScope = rowsScope := rfl
  conv at eS => rhs; whnf
  unfold rowsEnv
  rw [eS]
  conv => arg 3; arg 1; whnf
  (try simp only [List.take_succ_cons, List.take_zero])
  clear eS
  refine wpAny_execs_cons (Assign_Tuple (wpAny_mono (?_ : wpAny _ _ _ (TupAt s l tp r b) _ _) (fun v s₁ q => ?_) fun _ _ q => q))
  · clear ret
    k_steps
    exact ⟨⟨_, _, rfl, by assumption⟩, _, _, _, _, _, rfl, by assumption⟩
  · obtain ⟨⟨h1, tk1, rfl, e1⟩, D, t1, t2, t3, t4, rfl, g⟩ := q
    refine asg4 (m := m) rfl (by rfl) (by rfl) (by rfl) (by rfl) rfl (ns.keeps e1) g fun h' tk e n' => wpAny_execs_nil ?_
    exact ret h' tk _ t1 t2 t3 t4 (ex_trans (ex_ext e1) e) n' ((if_neg (by decide)).trans ((if_neg (by decide)).trans ((if_neg (by decide)).trans (if_pos rfl)))) ((if_neg (by decide)).trans ((if_neg (by decide)).trans (if_pos rfl))) ((if_neg (by decide)).trans (if_pos rfl)) (if_pos rfl)
theorem rows_s1 : ∀ {w : World} {mg mb : Str → Option Value} {d u : Nat} {fr : Option (List Env)} {gd : Option (List Code)} {s : Shared} {L : Addr} {m : Str → Option Value} {tp b : Int} {t1 t2 : Tok} {Q : Flow → Shared → Prop}
    (X : (Mine.hd.heap_39 w.params).In s.heap) (T : TopRead Mine.hd.view_39 LO mg mb s.heap) (hd : d + 90 < recursionLimit) (hu : u + 900 < cLine) (ns : s.heap.Ns L m) (e1 : m (Str.ofString "min_row") = some (.int tp t1)) (e2 : m (Str.ofString "max_row") = some (.int b t2))
    (ret : ∀ h' tk R t u v, Ex [L] s.heap h' → h'.Ns L (fun y => if y = Str.ofString "rows" then some (.ref R) else m y) → (∀ b o, s.heap.get? b = some o → b ≠ R) → IsRange h' R tp (b + 1) 1 t u v → Q .next { s with heap := h', toks := tk }),
    wpAny (model PySem.Challenge.rw_ez0208_01.row.prog w) ⟨none, d, fr, gd, u⟩ (execs ((rowsBody.drop 1).take 1) (rowsEnv L)) Q FF s := by
  k_fill
  intro w mg mb d u fr gd s L m tp b t1 t2 Q X T hd hu ns e1 e2 ret
  have eS : rowsScope = rowsScope := rfl
  conv at eS => rhs; whnf
  unfold rowsEnv
  rw [eS]
  conv => arg 3; arg 1; whnf
  (try simp only [List.take_succ_cons, List.take_zero])
  clear eS
  refine wpAny_execs_cons (wpAny_Assign_Name (wpAny_mono (?_ : wpAny _ _ _ (RangeNew s tp (b + 1)) _ _) (fun v s₁ q => ?_) fun _ _ q => q))
  · clear ret
    k_steps
  · obtain ⟨⟨h1, tk1, rfl, x1⟩, R, t, u, v, rfl, fr, g⟩ := q
    exact wpAny_storeName_local (by rfl) (ns.keeps x1) (fun h' n' s' => wpAny_execs_nil (ret h' _ R t u v (ex_trans (ex_ext x1) (ex_same s')) n' fr ((s'.2 _ (range_ne (ns.keeps x1) g)).trans g))) (by rfl)
theorem cols_s0 : ∀ {w : World} {mg mb : Str → Option Value} {d u : Nat} {fr : Option (List Env)} {gd : Option (List Code)} {s : Shared} {L : Addr} {m : Str → Option Value} {txt y : Str} {tx : Tok} {l tp r b : Int} {q : Nat} {Q : Flow → Shared → Prop}
    (X : (Mine.hd.heap_39 w.params).In s.heap) (T : TopRead Mine.hd.view_39 LO mg mb s.heap) (hd : d + 90 < recursionLimit) (hu : u + 900 < cLine) (ns : s.heap.Ns L m) (em : m (Str.ofString "range_string") = some (.str txt tx)) (K : Told txt y (some l) (some tp) (some r) (some b) q)
    (ret : ∀ h' tk m' t1 t2 t3 t4, Ex [L] s.heap h' → h'.Ns L m' → m' (Str.ofString "min_col") = some (.int l t1) → m' (Str.ofString "min_row") = some (.int tp t2) → m' (Str.ofString "max_col") = some (.int r t3) → m' (Str.ofString "max_row") = some (.int b t4) → Q .next { s with heap := h', toks := tk }),
    wpAny (model PySem.Challenge.rw_ez0208_01.row.prog w) ⟨none, d, fr, gd, u⟩ (execs (colsBody.take 1) (colsEnv L)) Q FF s := by
  k_fill
  intro w mg mb d u fr gd s L m txt y tx l tp r b q Q X T hd hu ns em K ret
  have eS : colsScope = colsScope := rfl
  conv at eS => rhs; whnf
  unfold colsEnv
  rw [eS]
  conv => arg 3; arg 1; whnf
  (try simp only [List.take_succ_cons, List.take_zero])
  clear eS
  refine wpAny_execs_cons (Assign_Tuple (wpAny_mono (?_ : wpAny _ _ _ (TupAt s l tp r b) _ _) (fun v s₁ q => ?_) fun _ _ q => q))
  · clear ret
    k_steps
    exact ⟨⟨_, _, rfl, by assumption⟩, _, _, _, _, _, rfl, by assumption⟩
  · obtain ⟨⟨h1, tk1, rfl, e1⟩, D, t1, t2, t3, t4, rfl, g⟩ := q
    refine asg4 (m := m) rfl (by rfl) (by rfl) (by rfl) (by rfl) rfl (ns.keeps e1) g fun h' tk e n' => wpAny_execs_nil ?_
    exact ret h' tk _ t1 t2 t3 t4 (ex_trans (ex_ext e1) e) n' ((if_neg (by decide)).trans ((if_neg (by decide)).trans ((if_neg (by decide)).trans (if_pos rfl)))) ((if_neg (by decide)).trans ((if_neg (by decide)).trans (if_pos rfl))) ((if_neg (by decide)).trans (if_pos rfl)) (if_pos rfl)
theorem cols_s1 : ∀ {w : World} {mg mb : Str → Option Value} {d u : Nat} {fr : Option (List Env)} {gd : Option (List Code)} {s : Shared} {L : Addr} {m : Str → Option Value} {tp b : Int} {t1 t2 : Tok} {Q : Flow → Shared → Prop}
    (X : (Mine.hd.heap_39 w.params).In s.heap) (T : TopRead Mine.hd.view_39 LO mg mb s.heap) (hd : d + 90 < recursionLimit) (hu : u + 900 < cLine) (ns : s.heap.Ns L m) (e1 : m (Str.ofString "min_row") = some (.int tp t1)) (e2 : m (Str.ofString "max_row") = some (.int b t2))
    (ret : ∀ h' tk R t u v, Ex [L] s.heap h' → h'.Ns L (fun y => if y = Str.ofString "rows" then some (.ref R) else m y) → (∀ b o, s.heap.get? b = some o → b ≠ R) → IsRange h' R tp (b + 1) 1 t u v → Q .next { s with heap := h', toks := tk }),
    wpAny (model PySem.Challenge.rw_ez0208_01.row.prog w) ⟨none, d, fr, gd, u⟩ (execs ((colsBody.drop 1).take 1) (colsEnv L)) Q FF s := by
  k_fill
  intro w mg mb d u fr gd s L m tp b t1 t2 Q X T hd hu ns e1 e2 ret
  have eS : colsScope = colsScope := rfl
  conv at eS => rhs; whnf
  unfold colsEnv
  rw [eS]
  conv => arg 3; arg 1; whnf
  (try simp only [List.take_succ_cons, List.take_zero])
  clear eS
  refine wpAny_execs_cons (wpAny_Assign_Name (wpAny_mono (?_ : wpAny _ _ _ (RangeNew s tp (b + 1)) _ _) (fun v s₁ q => ?_) fun _ _ q => q))
  · clear ret
    k_steps
  · obtain ⟨⟨h1, tk1, rfl, x1⟩, R, t, u, v, rfl, fr, g⟩ := q
    exact wpAny_storeName_local (by rfl) (ns.keeps x1) (fun h' n' s' => wpAny_execs_nil (ret h' _ R t u v (ex_trans (ex_ext x1) (ex_same s')) n' fr ((s'.2 _ (range_ne (ns.keeps x1) g)).trans g))) (by rfl)
end Mine
end
section
open PySem PySem.W PySem.Calls PySem.Spec PyProof.Rows
set_option Elab.async false
set_option maxRecDepth 100000
set_option maxHeartbeats 1000000
set_option linter.unusedVariables false
set_option linter.unusedSimpArgs false
namespace Mine
theorem fillK19 : PySem.Challenge.rw_ez0208_01 = PySem.Challenge.rw_ez0208_01 → (∀ P, Mine.hd.heap_39 P = Mine.hd.heap_39 P) := by k_fill; intros; rfl
local macro_rules | `(tactic| walk_at "eval Name") => `(tactic| (k_dflt (first
  | (name_kind "local"; refine nm_hasLC (by with_reducible assumption) ?_)
  | (name_kind "local"; refine nm_localE (by with_reducible assumption) (by with_reducible assumption) ?_)
  | (name_kind "free"; refine' nm_cell ?hv ?_ ?hc; (case hc => rfl); (case hv => with_reducible assumption))
  | (name_kind "cell"; refine' nm_cell ?hv ?_ ?hc; (case hc => rfl); (case hv => with_reducible assumption))
  | (name_kind "globalImplicit"; refine nm_glob (by with_reducible assumption) (by with_reducible assumption) (by k_is) ?_)
  | (name_kind "globalImplicit"; refine nm_built (by with_reducible assumption) (by with_reducible assumption) (by k_is) (by boot_by_name) (by decide) ?_))))
local macro_rules | `(tactic| walk_at "call type:range") => `(tactic| (k_dflt (first | refine rng2 ?_ | refine rng1 ?_); intro h' tk' r' t' u' v' e' hr'))
local macro_rules | `(tactic| walk_at "RangeAt") => `(tactic| (exact ⟨⟨_, _, rfl, by assumption⟩, _, _, _, _, rfl, by assumption⟩))
theorem gcl_e {w : World} {mg mb : Str → Option Value} {d u : Nat} {fr : Option (List Env)} {gd : Option (List Code)} {s : Shared} {Q E : Value → Shared → Prop} {tm : Tok} {c : Int}
    (X : (Mine.hd.heap_39 w.params).In s.heap) (T : TopRead Mine.hd.view_39 LO mg mb s.heap) (hd : d + 8 < recursionLimit) (hu : u + 60 < cLine) (hc : IsC c)
    (ret : ∀ h' tk' t', Ext s.heap h' → Q (.str (upS c) t') { s with heap := h', toks := tk' }) :
    wpAny (model PySem.Challenge.rw_ez0208_01.row.prog w) ⟨none, d, fr, gd, u⟩ (call (.ref 56) [.int c tm] []) Q E s := gcl_c X T hd hu hc ret
local macro_rules | `(tactic| walk_at "call ref") => `(tactic| ((with_reducible show wpAny _ _ (call (Value.ref 56) [Value.int _ _] _) _ _ _); k_dflt (refine gcl_e (by with_reducible assumption) (by with_reducible assumption) (by omega) (by omega) (by with_reducible assumption) ?_); intro h' tk' t' e'))
theorem rows_s2 : ∀ {w : World} {mg mb : Str → Option Value} {d u : Nat} {fr : Option (List Env)} {gd : Option (List Code)} {s : Shared} {L : Addr} {m : Str → Option Value} {l r : Int} {t1 t2 : Tok} {Q : Flow → Shared → Prop}
    (X : (Mine.hd.heap_39 w.params).In s.heap) (T : TopRead Mine.hd.view_39 LO mg mb s.heap) (hd : d + 90 < recursionLimit) (hu : u + 900 < cLine) (ns : s.heap.Ns L m) (e1 : m (Str.ofString "min_col") = some (.int l t1)) (e2 : m (Str.ofString "max_col") = some (.int r t2))
    (hl3 : l = 1 ∨ l = 26 ∨ l = 701) (q1 : l ≤ r) (q2 : r < l + 4)
    (ret : ∀ h' tk C ys, Ex [L] s.heap h' → h'.Ns L (fun y => if y = Str.ofString "cols" then some (.ref C) else m y) → (∀ b o, s.heap.get? b = some o → b ≠ C) → h'.get? C = some (LCg.lst ys) → StrsAre ys ((List.range (r + 1 - l).toNat).map fun (j : Nat) => upS (l + (j : Int))) → Q .next { s with heap := h', toks := tk }),
    wpAny (model PySem.Challenge.rw_ez0208_01.row.prog w) ⟨none, d, fr, gd, u⟩ (execs ((rowsBody.drop 2).take 1) (rowsEnv L)) Q FF s := by
  k_fill
  intro w mg mb d u fr gd s L m l r t1 t2 Q X T hd hu ns e1 e2 hl3 q1 q2 ret
  have eS : rowsScope = rowsScope := rfl
  conv at eS => rhs; whnf
  unfold rowsEnv
  rw [eS]
  conv => arg 3; arg 1; whnf
  (try simp only [List.take_succ_cons, List.take_zero])
  clear eS
  refine wpAny_execs_cons ?_
  refine comp_range_LU (m₀ := m) (cl := []) (a := l) (n := (r + 1 - l).toNat) (G := fun B i y h => StrAt (upS (l + (i : Int))) y h) (by with_unfolding_all rfl) (by rfl) rfl ns (by with_unfolding_all rfl) (by decide) rfl (by decide) rfl rfl (fun _ => by with_unfolding_all rfl) ?hit ?sm ?hn ?sz ?mono ?el ?ret
  case hit =>
    have e9 : l + ((r + 1 - l).toNat : Int) = r + 1 := by omega
    rw [e9]
    refine wpAny_mono (?_ : wpAny _ _ _ (fun xv s₁ => RangeAt s l (r + 1) xv s₁) _ _) (fun _ _ q => q) (fun _ _ q => q)
    clear ret
    k_steps
  case sm => exact small_one (by omega) (by omega) (by omega) (by omega)
  case hn => rw [rangeSize_nat]; omega
  case sz => rw [PySem.sizeLine_eq]; omega
  case mono => exact fun B i y h h' q _ => q
  case ret => exact fun B D ys h' tk e n' hf hD hl hg _ => wpAny_execs_nil (ret h' tk D ys e n' hf hD (strs_of hl hg))
  case el =>
    intro B C i t h' tk hi hL e hB
    have X' := ext_in X e
    have T' := ext_read T e
    have hic : IsC (l + (i : Int)) := isC_of hl3 (by omega) (by omega)
    clear ret X T ns e1 e2
    refine wpAny_mono (?_ : wpAny _ _ _ (fun y s₁ => ElAt (StrAt (upS (l + (i : Int)))) { s with heap := h', toks := tk } y s₁) _ _) (fun _ _ q => q) (fun _ _ q => q)
    k_steps
    exact ⟨⟨_, rfl⟩, _, _, rfl, by assumption⟩
end Mine
end
section
open PySem PySem.W PySem.Calls PySem.Spec PyProof.Rows
set_option Elab.async false
set_option maxRecDepth 100000
set_option maxHeartbeats 1000000
set_option linter.unusedVariables false
set_option linter.unusedSimpArgs false
namespace Mine
theorem genexprCode_T {M : Model} {A : Around} {E : Value → Shared → Prop} {s : Shared} {env : Env} {c P : Addr} {ps : Array Value} {pos : Pos} {qualname : Str} {scope : Scope} {Q : Value → Shared → Prop} (hc : env.code = .ref c) (hok : s.heap.IsCode c P ps) (ht : s.heap.TableAt c P ps)
    (hQ : ∀ code h' tk more, Heap.ExtBut P s.heap h' → h'.IsCode c P (ps ++ more) → h'.TableAt c P (ps ++ more) → Q code { s with heap := h', toks := tk }) :
    wpAny M A (genexprCode env pos qualname scope) Q E s := by
  cases hnf : codeAmong pos ps.toList with
  | none => exact wpAny_genexprCodeX hc hok ht hnf fun c' h' tk hx _ _ h3 _ h5 _ => hQ _ h' tk _ hx h3 h5
  | some cv =>
    have hok' := hok
    obtain ⟨o, vs, file, tf, flags, tg, inF, text, tt, op, ho, hd, h11, h2, h7, h9, h10, hop, hpd, htr, hne⟩ := hok
    unfold genexprCode codeAt
    rw [hc, if_neg (show ¬ ((Value.ref c == Value.none) = true) from Bool.false_ne_true)]
    refine wpAny_bind (wpAny_fieldsOf ho hd ?_)
    rw [h11]
    refine wpAny_bind (wpAny_fieldsOf hop hpd ?_)
    rw [hnf]
    refine wpAny_pure (hQ cv s.heap s.toks #[] (Heap.ExtBut.refl _ _) ?_ ?_)
    · simpa using hok'
    · simpa using ht
/-- the generators' list behind a tuple(...) of a new generator expression -/
def GNew (a b : Array GenState) : Prop := (∀ k, k < a.size → b[k]? = a[k]?) ∧ a.size ≤ b.size ∧ ∀ k st, a.size ≤ k → b[k]? = some st → st.bare = true
theorem GNew.of {a b : Array GenState} {x : GenState} (q : GenOnlyQ a.size (a.push x) b) (hx : x.bare = true) : GNew a b := by
  rcases q with rfl | ⟨⟨h1, h2⟩, h3⟩
  · refine ⟨fun k hk => ?_, by simp, fun k st hk e => ?_⟩
    · rw [Array.getElem?_push, if_neg (Nat.ne_of_lt hk)]
    · rw [Array.getElem?_push] at e
      split at e
      · cases e; exact hx
      · rw [Array.getElem?_eq_none (by omega)] at e; cases e
  · refine ⟨fun k hk => ?_, by rw [h1]; simp, fun k st hk e => ?_⟩
    · rw [h2 k (Nat.ne_of_lt hk), Array.getElem?_push, if_neg (Nat.ne_of_lt hk)]
    · by_cases hk' : k = a.size
      · subst hk'; exact h3 _ e
      · rw [h2 k hk', Array.getElem?_push, if_neg hk', Array.getElem?_eq_none (by omega)] at e; cases e
theorem GNew.gg {a b : Array GenState} {g : Nat} (q : GNew a b) (hg : g ≤ a.size) : GG g a b := by
  refine ⟨fun k hk => q.1 k (Nat.lt_of_lt_of_le hk hg), q.2.1, fun h k st hk e => ?_⟩
  rcases Nat.lt_or_ge k a.size with z | z
  · rw [q.1 k z] at e; exact h k st hk e
  · exact q.2.2 k st z e
section
variable {prog : Program} {w : World} {A : Around} {s : Shared}
/-- what a new generator expression over n items gives to tuple(...) -/
def Made (prog : Program) (w : World) (A : Around) (s : Shared) (c P : Addr) (ps : Array Value) (n : Nat) (F : Nat → Value → Prop) (v : Value) (s₅ : Shared) : Prop :=
  ∀ Q : Value → Shared → Prop, (∀ h' tk gs T vs more, Heap.ExtBut P s.heap h' → h'.IsCode c P (ps ++ more) → h'.TableAt c P (ps ++ more) → GNew s.gens gs → (∀ b o, s.heap.get? b = some o → @LT.lt Nat _ b T) → h'.get? T = some (tupObj vs) → vs.length = n → (∀ (j : Nat) y, vs[j]? = some y → F j y) → Q (.ref T) { s with heap := h', toks := tk, gens := gs }) →
    wpAny (model prog w) A (call (.type "tuple") [v]) Q FF s₅
theorem passing_all {n : Nat} : passing (fun _ => true) n 0 = List.range n := by simp [passing]
theorem gx {env : Env} {elt iter : Expr} {x : Str} {px : Pos} {scope : Scope} {cl : List (Str × Addr)} {pos : Pos} {c cP bm : Addr} {ps : Array Value} {mg : Str → Option Value} {ob : Obj} {n : Nat} {P F : Nat → Value → Prop}
    (hh : A.handled = none) (hco : scope.isCoroutine = false) (hclos : closureFor scope env = pure cl) (hcell : ∀ y ∈ scope.names, y.2 ≠ .cell) (h0 : scope.names.lookup (".0" : Str) = some NameKind.local)
    (hx : scope.names.lookup x = some .local) (hkind : scope.kind = .function) (hroom : A.depth < recursionLimit) (hs : ∀ x, genFold iter env x = pure x)
    (hc : env.code = .ref c) (hok : s.heap.IsCode c cP ps) (ht : s.heap.TableAt c cP ps) (hl : s.heap.NoLimit) (hcs : cP ≠ cStatics) (hgl : s.heap.Ns env.globals mg) (hbn : mg "__builtins__" = some (.ref bm)) (hne : bm ≠ builtinsNs) (hob : s.heap.get? bm = some ob) (hocl : ob.cls = .type "module") (hdi : ob.dict = some builtinsNs) (hda : ob.data = .plain) (hgP : env.globals ≠ cP) (hbP : bm ≠ cP) (hn : n ≤ sizeLine)
    (hit : wpAny (model prog w) A (eval iter env) (fun xv s₁ => wpAny (model prog w) A (pyIter xv) (fun it s₂ => ∃ I fp St, it = .ref I ∧ (∀ A' : Around, A'.handled = none → Walks prog w A' I fp [I] n P St) ∧ St 0 s₂.heap ∧ (∀ b ∈ fp, ∃ o, s₂.heap.get? b = some o) ∧ Keeps s s₂ ∧ (∀ b o, s.heap.get? b = some o → b ≠ I) ∧ cP ∉ fp) FF s₁) FF s)
    (el : ∀ (A' : Around) E' i v (t : Shared) (code : Value) C m₂, A'.handled = none → P i v → t.heap.Ns C m₂ → m₂ x = some v → (∀ b o, s.heap.get? b = some o → b ≠ cP → t.heap.get? b = some o) →
      wpAny (model prog w) A' (eval elt (genEnv scope cl C code builtinsNs env)) (fun y s₃ => F i y ∧ Keeps t s₃) E' t) :
    wpAny (model prog w) A (eval (.GeneratorExp elt [⟨.Name x px, iter, [], 0⟩] scope pos) env) (Made prog w A s c cP ps n F) FF s := by
  refine wpAny_GeneratorExp_walksQ hh hco hclos hcell h0 hx hkind hroom (wpAny_mono hit (fun xv s₁ q => wpAny_mono q (fun it s₂ q => ?_) fun _ _ q => q) fun _ _ q => q) hs
  obtain ⟨I, fp, St, rfl, W, st0, hfp, ⟨h2, tk2, rfl, e2⟩, hIn, hcf⟩ := q
  dsimp only at st0 hfp e2
  refine ⟨hl.keeps e2, genexprCode_T hc (hok.keeps e2) (ht.keeps e2) fun code h3 tk3 more x3 hok3 ht3 => ?_⟩
  dsimp only at x3
  have cPlt : @LT.lt Nat _ cP s.heap.objs.size := Heap.lt_size ht.2
  have e3 : ∀ b o, s.heap.get? b = some o → b ≠ cP → h3.get? b = some o := fun b o e hb => x3 b o hb (e2 b o e)
  have hg3 : h3.Ns env.globals mg := hgl.at' fun o e => e3 _ o e hgP
  have hl3 : h3.NoLimit := let ⟨mc, hns, hnn⟩ := hl; ⟨mc, hns.at' fun o e => e3 _ o e (Ne.symm hcs), hnn⟩
  refine wpAny_builtinsFor hg3 hbn hne (e3 _ _ hob hbP) hocl hdi hda ?_
  have hfp3 : ∀ b ∈ fp, @LT.lt Nat _ b h3.objs.size := fun b hb => let ⟨o, e⟩ := hfp b hb; Heap.lt_size (x3 b o (fun q => hcf (q ▸ hb)) e)
  refine ⟨I, fp, [I], n, P, St, fun _ => true, F, rfl, W, (W A hh).frame _ _ _ st0 fun b hb o e => x3 b o (fun q => hcf (q ▸ hb)) e, hfp3, hl3, ?_, ?_, ?_⟩
  · intro hm
    have := List.mem_singleton.mp hm
    obtain ⟨mc, ⟨o, _, _, ho, _⟩, _⟩ := hl
    exact hIn _ _ ho this
  · intro href hr
    have e4 : ∀ {t : Heap}, (∀ b ∈ List.range h3.objs.size, b ∉ [I] → ∀ o, href.get? b = some o → t.get? b = some o) → ∀ b o, s.heap.get? b = some o → b ≠ cP → t.get? b = some o := fun k b o e hb =>
      k b (List.mem_range.mpr (Heap.lt_size (e3 b o e hb))) (fun hm => hIn b o e (List.mem_singleton.mp hm)) o (hr b o (e3 b o e hb))
    exact ⟨fun A' E' i v t m₂ hA hP hns hm hk => wpAny_pure ⟨rfl, t.heap, t.toks, rfl, fun _ _ e => e⟩, fun A' E' i v t m₂ hA hP _ hns hm hk => el A' E' i v t code _ m₂ hA hP hns hm (e4 hk)⟩
  · intro a h5 tk5 gs hb ha hsz5 e5 WS hst
    dsimp only at ha hsz5 e5 WS hst
    intro Q hQ
    have I3 : @LT.lt Nat _ I h3.objs.size := by
      exact hfp3 I ((W A hh).sub I (List.mem_singleton.mpr rfl))
    refine call_tuple_gen (WalksS.in4_3 WS) (fun i s st => st.1.typeIs) hst ?_ (List.mem_cons_self ..) ?_ ?_
    · intro b hb'
      show @LT.lt Nat _ b h5.objs.size
      rw [hsz5]
      rcases List.mem_cons.mp hb' with rfl | hb'
      · exact Nat.lt_succ_self _
      · rcases List.mem_cons.mp hb' with rfl | hb'
        · exact Nat.lt_succ_of_lt ha
        · exact Nat.lt_succ_of_lt (Nat.lt_trans (List.mem_range.mp hb') ha)
    · intro s' acc hm hacc
      obtain ⟨m1, m2, m3, m4, m5⟩ := hm
      dsimp only at m1 m2 m3 m4
      rw [passing_all, List.length_range] at hacc
      have es : s' = { s with heap := s'.heap, toks := s'.toks, gens := s'.gens } := by
        cases s'; simp only at m3 m4; rw [m3, m4]
      have kp : ∀ b o, b ≠ cP → s.heap.get? b = some o → (s'.heap.push { cls := .type "tuple", data := .seq acc }).get? b = some o := fun b o hb e => by
        refine Heap.get?_push_of_some _ (m1 b o ?_ (e5 b o (e3 b o e hb)))
        intro hm
        rcases List.mem_cons.mp hm with q | hm
        · exact absurd (q ▸ Heap.lt_size (e3 b o e hb)) (Nat.lt_irrefl _)
        · exact hIn b o e (List.mem_singleton.mp hm)
      have wr_ne : ∀ b, @LT.lt Nat _ b h3.objs.size → (∀ o, s.heap.get? b = some o → True) → b ≠ I → b ∉ h3.objs.size :: [I] := fun b hb _ hI hm => by
        rcases List.mem_cons.mp hm with q | hm
        · exact absurd (q ▸ hb) (Nat.lt_irrefl _)
        · exact hI (List.mem_singleton.mp hm)
      have up : ∀ b o, b ≠ I → h3.get? b = some o → (s'.heap.push { cls := .type "tuple", data := .seq acc }).get? b = some o := fun b o hb e => Heap.get?_push_of_some _ (m1 b o (wr_ne b (Heap.lt_size e) (fun _ _ => trivial) hb) (e5 b o e))
      have cI : c ≠ I := by obtain ⟨o, _, _, _, _, _, _, _, _, _, ho, _⟩ := hok; exact hIn _ _ ho
      have pI : cP ≠ I := hIn _ _ ht.2
      have hlT : ∀ b o, s.heap.get? b = some o → @LT.lt Nat _ b s'.heap.objs.size := fun b o e => by
        by_cases hb : b = cP
        · subst hb; exact Heap.lt_size (m1 _ _ (wr_ne _ (Heap.lt_size ht3.2) (fun _ _ => trivial) pI) (e5 _ _ ht3.2))
        · refine Heap.lt_size (m1 b o (wr_ne b (Heap.lt_size (e3 b o e hb)) (fun _ _ => trivial) (hIn b o e)) (e5 b o (e3 b o e hb)))
      have r1 := hQ (s'.heap.push { cls := .type "tuple", data := .seq acc }) s'.toks s'.gens s'.heap.objs.size acc.toList more kp (hok3.extBut up cI pI) (ht3.extBut up cI pI) (GNew.of m2 hb) hlT (by rw [Heap.get?_push_size _ rfl]) (by rw [Array.length_toList]; exact hacc.1) (fun j y hy => ?_)
      · rw [es]
        exact r1
      · obtain ⟨i, hi, hF⟩ := hacc.2 j y (by rw [← Array.getElem?_toList]; exact hy)
        have hj : i = j := by
          obtain ⟨_, q⟩ := List.getElem?_eq_some_iff.mp hi
          rw [List.getElem_range] at q; exact q.symm
        exact hj ▸ hF
    · rw [passing_all, List.length_range]; exact hn
end
end Mine
end
section
local macro_rules | `(tactic| walk_at "mine pad 0") => `(tactic| skip)
local macro_rules | `(tactic| walk_at "mine pad 1") => `(tactic| skip)
local macro_rules | `(tactic| walk_at "mine pad 2") => `(tactic| skip)
local macro_rules | `(tactic| walk_at "mine pad 3") => `(tactic| skip)
local macro_rules | `(tactic| walk_at "mine pad 4") => `(tactic| skip)
local macro_rules | `(tactic| walk_at "mine pad 5") => `(tactic| skip)
local macro_rules | `(tactic| walk_at "mine pad 6") => `(tactic| skip)
local macro_rules | `(tactic| walk_at "mine pad 7") => `(tactic| skip)
local macro_rules | `(tactic| walk_at "mine pad 8") => `(tactic| skip)
local macro_rules | `(tactic| walk_at "mine pad 9") => `(tactic| skip)
local macro_rules | `(tactic| walk_at "mine pad 10") => `(tactic| skip)
local macro_rules | `(tactic| walk_at "mine pad 11") => `(tactic| skip)
local macro_rules | `(tactic| walk_at "mine pad 12") => `(tactic| skip)
local macro_rules | `(tactic| walk_at "mine pad 13") => `(tactic| skip)
open PySem PySem.W PySem.Calls PySem.Spec PyProof.Rows
set_option Elab.async false
set_option maxRecDepth 100000
set_option maxHeartbeats 1000000
set_option linter.unusedVariables false
set_option linter.unusedSimpArgs false
namespace Mine
theorem fillK20 : PySem.Challenge.rw_ez0208_01 = PySem.Challenge.rw_ez0208_01 → (∀ P, Mine.hd.heap_39 P = Mine.hd.heap_39 P) := by k_fill; intros; rfl
structure WF (P : Params) (mg mb : Str → Option Value) (bm : Addr) (ob : Obj) (h : Heap) : Prop where
  X : (Mine.hd.heap_39 P).In h
  T : TopRead Mine.hd.view_39 LO mg mb h
  bn : mg "__builtins__" = some (.ref bm)
  ne : bm ≠ builtinsNs
  obj : h.get? bm = some ob
  cl : ob.cls = .type "module"
  di : ob.dict = some builtinsNs
  da : ob.data = .plain
theorem k75 {P : Params} : (Mine.hd.heap_39 P).lookup 75 = none := by rfl
theorem k80 {P : Params} : (Mine.hd.heap_39 P).lookup 80 = none := by rfl
def Far (bm : Addr) (W : List Addr) : Prop := ∀ b, b ∈ W → b ≠ bm ∧ (@LE.le Nat _ 133 b ∨ b = 75 ∨ b = 80)
theorem Far.no {bm a : Addr} {W : List Addr} (x : Far bm W) (h1 : a < 133) (h2 : a ≠ 75) (h3 : a ≠ 80) : a ∉ W := fun hm => by
  rcases (x a hm).2 with q | q | q
  · exact Nat.lt_irrefl _ (Nat.lt_of_lt_of_le h1 q)
  · exact h2 q
  · exact h3 q
theorem in_ex {P : Params} {bm : Addr} {W : List Addr} {h h' : Heap} (X : (Mine.hd.heap_39 P).In h) (x : Far bm W) (e : Ex W h h') : (Mine.hd.heap_39 P).In h' := fun a o q =>
  e a o (x.no (klow a o q) (fun z => by rw [z, k75] at q; cases q) (fun z => by rw [z, k80] at q; cases q)) (X a o q)
theorem read_ex {mg mb : Str → Option Value} {bm : Addr} {W : List Addr} {h h' : Heap} (T : TopRead Mine.hd.view_39 LO mg mb h) (x : Far bm W) (e : Ex W h h') : TopRead Mine.hd.view_39 LO mg mb h' := by
  obtain ⟨mc, h1, h2⟩ := T.nolimit
  exact ⟨T.g.at' fun o q => e _ o (x.no (by decide) (by decide) (by decide)) q, T.b.at' fun o q => e _ o (x.no (by decide) (by decide) (by decide)) q, ⟨mc, h1.at' fun o q => e _ o (x.no (by decide) (by decide) (by decide)) q, h2⟩, T.builtins, T.free⟩
theorem WF.ex {P : Params} {mg mb : Str → Option Value} {bm : Addr} {ob : Obj} {W : List Addr} {h h' : Heap} (F : WF P mg mb bm ob h) (x : Far bm W) (e : Ex W h h') : WF P mg mb bm ob h' :=
  ⟨in_ex F.X x e, read_ex F.T x e, F.bn, F.ne, e _ _ (fun hm => (x _ hm).1 rfl) F.obj, F.cl, F.di, F.da⟩
theorem nm_genL {M : Model} {A : Around} {E : Value → Shared → Prop} {s : Shared} {x : Str} {pos : Pos} {v : Value} {Q : Value → Shared → Prop} {scope : Scope} {cl : List (Str × Addr)} {C bi : Addr} {code : Value} {env : Env} {m : Str → Option Value} (ns : s.heap.Ns C m) (hv : m x = some v) (h : Q v s) (hk : (genEnv scope cl C code bi env).scope.kind = .function := by rfl) (hl : (genEnv scope cl C code bi env).kindOf x = some .local := by rfl) (hd : (x == ("__debug__" : Str)) = false := by decide) : wpAny M A (eval (.Name x pos) (genEnv scope cl C code bi env)) Q E s :=
  nm_local (env := genEnv scope cl C code bi env) ns hv h hk hl hd
theorem strs_at {vs : List Value} {ws : List Str} (h : StrsAre vs ws) {i : Nat} {v : Value} (e : vs.toArray[i]? = some v) : ∃ x t, ws[i]? = some x ∧ v = .str x t := by
  rw [List.getElem?_toArray] at e
  induction h generalizing i with
  | nil => simp at e
  | cons y t r ih =>
    cases i with
    | zero => simp at e; exact ⟨_, _, rfl, e.symm⟩
    | succ i => simp at e; obtain ⟨x, t, a, b⟩ := ih e; exact ⟨x, t, by simpa using a, b⟩
theorem strs_mk {vs : List Value} {ws : List Str} (hl : vs.length = ws.length) (h : ∀ (j : Nat) y, vs[j]? = some y → ∃ x t, ws[j]? = some x ∧ y = .str x t) : StrsAre vs ws := by
  refine kdy_strs hl fun j v hv => ?_
  obtain ⟨x, t, a, b⟩ := h j v hv
  exact ⟨x, a, t, b⟩
theorem strs_len {vs : List Value} {ws : List Str} (h : StrsAre vs ws) : vs.length = ws.length := by
  induction h with
  | nil => rfl
  | cons y t r ih => simp [ih]
def yieldE (l : List Stmt) : Option Expr := match l.drop 3 with | .For _ _ (.Expr (.Yield (some e) _) _ :: _) _ _ :: _ => some e | _ => none
local macro_rules | `(tactic| walk_at "eval Name") => `(tactic| (k_dflt (first
  | (name_kind "local"; refine nm_hasLC (by with_reducible assumption) ?_)
  | (name_kind "local"; refine nm_genL (by with_reducible assumption) (by with_reducible assumption) ?_)
  | (name_kind "local"; refine nm_localE (by with_reducible assumption) (by with_reducible assumption) ?_)
  | (name_kind "free"; refine' nm_free ?hv ?_ ?hc; (case hc => rfl); (case hv => with_reducible assumption))
  | (name_kind "cell"; refine' nm_cell ?hv ?_ ?hc; (case hc => rfl); (case hv => with_reducible assumption))
  | (name_kind "globalImplicit"; refine nm_glob (by with_reducible assumption) (by with_reducible assumption) (by k_is) ?_)
  | (name_kind "globalImplicit"; refine nm_built (by with_reducible assumption) (by with_reducible assumption) (by k_is) (by boot_by_name) (by decide) ?_))))
theorem fmt_e {prog : Program} {w : World} {A : Around} {E : Value → Shared → Prop} {s : Shared} {Q : Value → Shared → Prop} {x : Str} {n : Int} {t u v : Tok} (hx : x.length ≤ 3) (h0 : 1 ≤ n) (h1 : n ≤ 15)
   (h : ∀ t' k, Q (.str (x ++ Str.ofString (toString n)) t') { s with toks := k }) : wpAny (model prog w) A (call (Value.builtin "str.format") [.str (Str.ofString "{0}{1}") t, .str x u, .int n v]) Q E s := fmt_2 (by omega) (by omega) (by omega) h
local macro_rules | `(tactic| walk_at "call builtin:str.format") => `(tactic| ((with_reducible show wpAny _ _ (call (Value.builtin "str.format") [Value.str _ _, Value.str _ _, Value.int _ _]) _ _ _); with_unfolding_all refine fmt_e (by assumption) (by assumption) (by assumption) ?_; intro t' k'))
local macro_rules | `(tactic| walk_at "getMethod str") => `(tactic| (refine KFm.method ?_))
def FmtAt (x : Str) (row : Int) (t : Shared) (y : Value) (s₃ : Shared) : Prop := (∃ t', y = .str (x ++ Str.ofString (toString row)) t') ∧ Keeps t s₃
theorem rows_elt : ∀ {w : World} {mg mb : Str → Option Value} {bm : Addr} {ob : Obj} {d u : Nat} {fr : Option (List Env)} {gd : Option (List Code)} {s : Shared} {L C : Addr} {m : Str → Option Value} {row : Int} {t : Tok} {ys : List Value} {ws : List Str} {ps : Array Value} {Q : Value → Shared → Prop}
    (X : (Mine.hd.heap_39 w.params).In s.heap) (T : TopRead Mine.hd.view_39 LO mg mb s.heap) (F : WF w.params mg mb bm ob s.heap) (hbm : bm ≠ 75) (hd : d + 90 < recursionLimit) (hu : u + 900 < cLine) (ns : s.heap.Ns L m) (em : m (Str.ofString "cols") = some (.ref C)) (hC : s.heap.get? C = some (LCg.lst ys)) (hys : StrsAre ys ws) (hw : ∀ x ∈ ws, x.length ≤ 3) (hn : ys.length ≤ 4)
    (ck : s.heap.IsCell (L + 1) (some (.int row t))) (r1 : 1 ≤ row) (r2 : row ≤ 15) (hok : s.heap.IsCode 77 75 ps) (ht : s.heap.TableAt 77 75 ps)
    (ret : ∀ h' tk gs T vs more, Heap.ExtBut 75 s.heap h' → h'.IsCode 77 75 (ps ++ more) → h'.TableAt 77 75 (ps ++ more) → GNew s.gens gs → (∀ b o, s.heap.get? b = some o → @LT.lt Nat _ b T) → h'.get? T = some (tupObj vs) → StrsAre vs (ws.map fun x => x ++ Str.ofString (toString row)) → Q (.ref T) { s with heap := h', toks := tk, gens := gs }),
    wpAny (model PySem.Challenge.rw_ez0208_01.row.prog w) ⟨none, d, fr, gd, u⟩ (eval (theE (yieldE rowsBody)) (rowsEnv L)) Q FF s := by
  k_fill
  intro w mg mb bm ob d u fr gd s L C m row t ys ws ps Q X T F hbm hd hu ns em hC hys hw hn ck r1 r2 hok ht ret
  have eS : rowsScope = rowsScope := rfl
  conv at eS => rhs; whnf
  have eI : theE (yieldE rowsBody) = theE (yieldE rowsBody) := rfl
  conv at eI => rhs; whnf
  unfold rowsEnv
  rw [eS, eI]
  clear eS eI
  k_steps
  refine wpAny_mono (gx (prog := PySem.Challenge.rw_ez0208_01.row.prog) (w := w) (A := ⟨none, d, fr, gd, u⟩) (s := s) (cl := [(Str.ofString "row", L + 1)]) (c := 77) (cP := 75) (bm := bm) (ps := ps) (mg := mg) (ob := ob) (n := ys.toArray.size) (P := fun i v => ys.toArray[i]? = some v) (F := fun i y => ∃ x t, ws[i]? = some x ∧ y = .str (x ++ Str.ofString (toString row)) t) rfl (by rfl) (by with_unfolding_all rfl) (by decide) (by rfl) (by rfl) (by rfl) (by dsimp only; omega) (fun _ => by with_unfolding_all rfl) rfl hok ht T.nolimit (by decide) T.g F.bn F.ne F.obj F.cl F.di F.da (by show mainGlobals ≠ 75; decide) hbm ?hn ?hit ?el) (fun v s₁ q => ?fin) fun _ _ q => q
  case hn => rw [PySem.sizeLine_eq, List.size_toArray]; omega
  case hit =>
    have hli : s.heap.IsList C ys.toArray := ⟨_, hC, rfl, _, rfl⟩
    have hlt : @LT.lt Nat _ C s.heap.objs.size := Heap.lt_size hC
    have c75 : C ≠ 75 := by rintro rfl; have := ht.2.symm.trans hC; cases this
    refine nm_localE ns em (wpAny_pyIter_list hli ⟨s.heap.objs.size, [s.heap.objs.size, C], _, rfl, fun A' hA => Walks.list hA _ _ (nlt hlt).1 ys.toArray, ⟨⟨_, Heap.get?_push_size _ rfl, rfl, rfl⟩, hli.push _⟩, ?_, ⟨_, _, rfl, fun b o e => Heap.get?_push_of_some _ e⟩, fun b o e q => ?_, fun hm => ?_⟩)
    · intro b hb
      rcases List.mem_cons.mp hb with rfl | hb
      · exact ⟨_, Heap.get?_push_size _ rfl⟩
      · rcases List.mem_cons.mp hb with rfl | hb
        · exact ⟨_, Heap.get?_push_of_some _ hC⟩
        · cases hb
    · exact absurd (q ▸ Heap.lt_size e) (Nat.lt_irrefl _)
    · rcases List.mem_cons.mp hm with q | hm
      · exact absurd (q ▸ Heap.lt_size ht.2) (Nat.lt_irrefl _)
      · exact c75 (List.mem_singleton.mp hm).symm
  case el =>
    intro A' E' i v t code C' m₂ hA hP hns hm hk
    obtain ⟨x, t', hx, rfl⟩ := strs_at hys hP
    have hx3 := hw x (List.mem_of_getElem? hx)
    have ck' : t.heap.IsCell (L + 1) (some (.int row _)) := let ⟨o, ho, hd⟩ := ck; ⟨o, hk _ o ho (fun q => by rw [q] at ho; have := ht.2.symm.trans ho; cases this; cases hd), hd⟩
    refine wpAny_mono (?_ : wpAny _ _ _ (fun y s₃ => FmtAt x row t y s₃) _ _) (fun _ _ q => ⟨⟨x, _, hx, q.1.choose_spec⟩, q.2⟩) (fun _ _ q => q)
    clear X T F ns em hC hys hw hn ck hok ht ret hP hk hx
    k_steps
    exact ⟨⟨_, rfl⟩, _, _, rfl, fun _ _ e => e⟩
  case fin =>
    k_steps
    refine q _ fun h' tk gs T vs more x c1 t1 g1 l1 e1 n1 p1 => ret h' tk gs T vs more x c1 t1 g1 l1 e1 (strs_mk (by rw [List.length_map, n1, List.size_toArray]; exact strs_len hys) fun j y hy => ?_)
    obtain ⟨z, t', hz, rfl⟩ := p1 j y hy
    exact ⟨_, t', by rw [List.getElem?_map, hz]; rfl, rfl⟩
end Mine
end
section
open PySem PySem.W PySem.Calls PySem.Spec PyProof.Rows
set_option Elab.async false
set_option maxRecDepth 100000
set_option maxHeartbeats 1000000
set_option linter.unusedVariables false
set_option linter.unusedSimpArgs false
namespace Mine
section
variable {M : Model} {A : Around} {R : GenEnd} {Y : Protocol} {n : Nat} {s₀ : Shared} {c : Code} {fs : List Frame} {s : Shared} {env : Env}
  {K : Flow → Sem Fin} {H : Value → Sem Fin} {gd : Bool → Bool} {lv : List Value → List Value}
theorem seg_pre {l : List Stmt} (k : Nat) (h : wpAny M (A.over c fs) (execs ((l.drop k).take 1) env) (fun f s' => f = .next ∧ PySem.Seg M A R Y n s₀ c ((execs (l.drop (k + 1)) env).wrap K H gd lv) fs s') FF s) :
    PySem.Seg M A R Y n s₀ c ((execs (l.drop k) env).wrap K H gd lv) fs s := by
  have e : execs (l.drop k) env = execs ((l.drop k).take 1 ++ l.drop (k + 1)) env := by
    have : l.drop (k + 1) = (l.drop k).drop 1 := by rw [List.drop_drop]
    rw [this, List.take_append_drop]
  rw [e, execs_append, Sem.bind_eq_wrap', Sem.wrap_wrap]
  refine seg_wrap (wpAny_mono h (fun f s' q => ?_) fun _ _ q => q.elim)
  obtain ⟨rfl, q⟩ := q
  exact q
theorem around_eta (B : Around) (h : B.handled = none) : B = ⟨none, B.depth, B.frames, B.guards, B.units⟩ := by
  cases B; cases h; rfl
theorem over_func {body : List Stmt} (hh : A.handled = none) : ∃ d fr gd u, A.over (.func body env) [] = ⟨none, d, fr, gd, u⟩ ∧ d ≤ A.depth + 4 ∧ u ≤ A.units + 12 := by
  refine ⟨(A.over (.func body env) []).depth, (A.over (.func body env) []).frames, (A.over (.func body env) []).guards, (A.over (.func body env) []).units, ?_, ?_, ?_⟩
  · exact around_eta _ hh
  · show A.depth + frameCount [] + (Code.func body env).weight ≤ _
    have : (Code.func body env).weight = 1 := rfl
    have h0 : frameCount [] = 0 := rfl
    omega
  · show A.units + unitsOf [] + (Code.func body env).cUnits ≤ _
    have : (Code.func body env).cUnits = 3 := rfl
    have h0 : unitsOf [] = 0 := rfl
    omega
theorem over_for {body body' orelse : List Stmt} {target : Expr} {it : Value} {k : Result → Sem Fin} {p : Pos} {l : List Value} (hh : A.handled = none) : ∃ d fr gd u, A.over (.forLoop target it body' orelse env) [.ret k none false l (.func body env) p []] = ⟨none, d, fr, gd, u⟩ ∧ d ≤ A.depth + 4 ∧ u ≤ A.units + 12 := by
  refine ⟨(A.over (.forLoop target it body' orelse env) [.ret k none false l (.func body env) p []]).depth, (A.over (.forLoop target it body' orelse env) [.ret k none false l (.func body env) p []]).frames, (A.over (.forLoop target it body' orelse env) [.ret k none false l (.func body env) p []]).guards, (A.over (.forLoop target it body' orelse env) [.ret k none false l (.func body env) p []]).units, ?_, ?_, ?_⟩
  · exact around_eta _ hh
  · show A.depth + frameCount [(.func body env, p)] + (Code.forLoop target it body' orelse env).weight ≤ _
    have : (Code.forLoop target it body' orelse env).weight = 0 := rfl
    have h0 : frameCount [(Code.func body env, p)] = 1 := rfl
    omega
  · show A.units + unitsOf [(.func body env, p)] + (Code.forLoop target it body' orelse env).cUnits ≤ _
    have : (Code.forLoop target it body' orelse env).cUnits = 0 := rfl
    have h0 : unitsOf [(Code.func body env, p)] = 3 := rfl
    omega
end
theorem rows_for : ∃ px pi yp ep fp, rowsBody.drop 3 = [.For (.Name (Str.ofString "row") px) (.Name (Str.ofString "rows") pi) [.Expr (.Yield (some (theE (yieldE rowsBody))) yp) ep] [] fp] := ⟨_, _, _, _, _, rfl⟩
theorem rows_k1 {L : Addr} : (rowsEnv L).scope.kind = .function := rfl
theorem rows_k2 {L : Addr} : (rowsEnv L).kindOf (Str.ofString "rows") = some .local := rfl
theorem rows_k3 {L : Addr} : (rowsEnv L).kindOf (Str.ofString "row") = some .cell := rfl
theorem rows_k4 {L : Addr} : (rowsEnv L).cells.lookup (Str.ofString "row") = some (L + 1) := rfl
theorem rows_k5 {L : Addr} : (rowsEnv L).scope.isCoroutine = false := rfl
theorem rows_k6 {L : Addr} : interactive (rowsEnv L) = false := rfl
end Mine
end
section
open PySem PySem.W PySem.Calls PySem.Spec PyProof.Rows
set_option Elab.async false
set_option maxRecDepth 100000
set_option maxHeartbeats 1000000
set_option linter.unusedVariables false
set_option linter.unusedSimpArgs false
namespace Mine
def Tup1 (B : Nat) (ws : List Str) (y : Value) (h : Heap) : Prop := ∃ (T : Addr) (vs : List Value), y = .ref T ∧ @LE.le Nat _ B T ∧ h.get? T = some (tupObj vs) ∧ StrsAre vs ws
def rowT (l tp : Int) (nc : Nat) (i : Nat) : List Str := (List.range nc).map fun (j : Nat) => cellT (l + (j : Int)) (tp + (i : Int))
def lets (l : Int) (nc : Nat) : List Str := (List.range nc).map fun (j : Nat) => upS (l + (j : Int))
theorem rowT_eq {l tp : Int} {nc i : Nat} : (lets l nc).map (fun x => x ++ Str.ofString (toString (tp + (i : Int)))) = rowT l tp nc i := by
  unfold lets rowT cellT
  rw [List.map_map]; rfl
structure RInv (P : Params) (mg mb : Str → Option Value) (bm : Addr) (ob : Obj) (L C I : Addr) (ys : List Value) (tp : Int) (N i : Nat) (s : Shared) : Prop where
  F : WF P mg mb bm ob s.heap
  ns : ∃ m, s.heap.Ns L m ∧ m (Str.ofString "cols") = some (.ref C)
  hC : s.heap.get? C = some (LCg.lst ys)
  ck : ∃ v, s.heap.IsCell (L + 1) v
  tab : ∃ ps, s.heap.IsCode 77 75 ps ∧ s.heap.TableAt 77 75 ps
  it : IsRangeIter s.heap I (tp + (i : Int) * 1) ((N : Int) - (i : Int)) 1
theorem isCode_at {h h' : Heap} {c P : Addr} {ps : Array Value} (x : h.IsCode c P ps) (k : ∀ b o, b = c ∨ b = P → h.get? b = some o → h'.get? b = some o) : h'.IsCode c P ps :=
  let ⟨o, vs, file, tf, flags, tg, inF, text, tt, op, a, r1, r2, r3, r4, r5, r6, b, r⟩ := x
  ⟨o, vs, file, tf, flags, tg, inF, text, tt, op, k _ _ (.inl rfl) a, r1, r2, r3, r4, r5, r6, k _ _ (.inr rfl) b, r⟩
theorem tableAt_at {h h' : Heap} {c P : Addr} {ps : Array Value} (x : h.TableAt c P ps) (k : ∀ b o, b = c ∨ b = P → h.get? b = some o → h'.get? b = some o) : h'.TableAt c P ps :=
  let ⟨⟨o, vs, a, r⟩, t⟩ := x; ⟨⟨o, vs, k _ _ (.inl rfl) a, r⟩, k _ _ (.inr rfl) t⟩
theorem RInv.ex {P : Params} {mg mb : Str → Option Value} {bm : Addr} {ob : Obj} {L C I : Addr} {ys : List Value} {tp : Int} {N i : Nat} {s s' : Shared} {W : List Addr} (x : RInv P mg mb bm ob L C I ys tp N i s) (hW : Far bm W) (e : Ex W s.heap s'.heap) (n1 : L ∉ W) (n2 : C ∉ W) (n3 : L + 1 ∉ W) (n4 : 75 ∉ W) (n5 : I ∉ W) : RInv P mg mb bm ob L C I ys tp N i s' where
  F := x.F.ex hW e
  ns := let ⟨m, a, b⟩ := x.ns; ⟨m, a.at' fun o q => e _ o n1 q, b⟩
  hC := e _ _ n2 x.hC
  ck := let ⟨v, o, a, b⟩ := x.ck; ⟨v, o, e _ _ n3 a, b⟩
  tab := by
    obtain ⟨ps, a, b⟩ := x.tab
    have k : ∀ c o, c = 77 ∨ c = 75 → s.heap.get? c = some o → s'.heap.get? c = some o := fun c o hc q => by
      rcases hc with rfl | rfl
      · exact e _ _ (hW.no (by decide) (by decide) (by decide)) q
      · exact e _ _ n4 q
    exact ⟨ps, isCode_at a k, tableAt_at b k⟩
  it := e _ _ n5 x.it
def J75 (h : Heap) : Prop := ∃ ps, h.IsCode 77 75 ps ∧ h.TableAt 77 75 ps
section
variable {w : World} {mg mb : Str → Option Value} {bm : Addr} {ob : Obj} {A : Around} {B g N nc : Nat} {wc : List Addr} {L C I : Addr} {ys : List Value} {l tp : Int}
theorem rows_loop (hh : A.handled = none) (hd : A.depth + 95 < recursionLimit) (hu : A.units + 920 < cLine) (hys : StrsAre ys (lets l nc)) (hnc : nc ≤ 4) (hlw : ∀ x ∈ lets l nc, x.length ≤ 3) (hbm : bm ≠ 75) (t1 : 1 ≤ tp) (t2 : tp + (N : Int) ≤ 16)
    (hW : Far bm wc) (n1 : L ∉ wc) (n2 : C ∉ wc) (n3 : L + 1 ∉ wc) (n4 : 75 ∉ wc) (n5 : I ∉ wc) (hL133 : @LE.le Nat _ 133 L) (hI133 : @LE.le Nat _ 133 I) (hBI : @LE.le Nat _ B I) (hLI : L + 1 ≠ I) (hL0 : L ≠ L + 1) (hLI2 : L ≠ I) (hCI : C ≠ I) (far : Far bm [I, L + 1, 75])
    {px yp ep p : Pos} {kk : Result → Sem Fin} {ll : List Value} (hk : ∀ s₀ s c', GRel J75 B [L, L + 1, 75] g s₀ s → PySem.Seg (model PySem.Challenge.rw_ez0208_01.row.prog w) A (RR J75 B [L, L + 1, 75] g) (YY J75 B [L, L + 1, 75] wc g N (fun i => Tup1 B (rowT l tp nc i))) 0 s₀ c' (kk (.ok .next)) [] s) :
    ∀ (j i : Nat) (s₀ s : Shared), i + j = N → RInv w.params mg mb bm ob L C I ys tp N i s → GRel J75 B [L, L + 1, 75] g s₀ s → g + 1 ≤ s.gens.size →
      PySem.Seg (model PySem.Challenge.rw_ez0208_01.row.prog w) A (RR J75 B [L, L + 1, 75] g) (YY J75 B [L, L + 1, 75] wc g N (fun i => Tup1 B (rowT l tp nc i))) j s₀
        (.forLoop (.Name (Str.ofString "row") px) (.ref I) [.Expr (.Yield (some (theE (yieldE rowsBody))) yp) ep] [] (rowsEnv L)) ((model PySem.Challenge.rw_ez0208_01.row.prog w).den (.forLoop (.Name (Str.ofString "row") px) (.ref I) [.Expr (.Yield (some (theE (yieldE rowsBody))) yp) ep] [] (rowsEnv L))) [.ret kk none false ll (.func rowsBody (rowsEnv L)) p []] s := by
  intro j
  induction j with
  | zero =>
    intro i s₀ s hi x G hgs
    have e : i = N := by omega
    subst e
    refine seg_forEnd ?_
    obtain ⟨d, fr, gd, u, ea, ed, eu⟩ := over_for (A := A) (env := rowsEnv L) (body := rowsBody) (body' := [.Expr (.Yield (some (theE (yieldE rowsBody))) yp) ep]) (orelse := []) (target := .Name (Str.ofString "row") px) (it := .ref I) (k := kk) (p := p) (l := ll) hh
    rw [ea]
    have W := LCg.range_walks (prog := PySem.Challenge.rw_ez0208_01.row.prog) (w := w) (A := ⟨none, d, fr, gd, u⟩) (I := I) rfl tp i
    refine W.done _ _ _ x.it fun h' tk' hk' => ⟨rfl, fun c' => seg_leaf (.ok .next) (hk _ _ _ ?_)⟩
    have hg : GRel J75 B [L, L + 1, 75] g s { s with heap := h', toks := tk' } := ⟨h', tk', s.gens, rfl, fun b o hb hp q => hk' b o (fun hm => ?_) q, GG.refl _ _, fun q => ?_⟩
    · exact G.trans hg
    · have := List.mem_singleton.mp hm
      subst this
      rcases hp with hp | hp
      · exact Nat.lt_irrefl _ (Nat.lt_of_lt_of_le hp hBI)
      · rw [x.it] at q; cases q; exact hp (fun _ _ z => nomatch z)
    · obtain ⟨ps, a, b⟩ := q
      have k : ∀ c o, c = 77 ∨ c = 75 → s.heap.get? c = some o → h'.get? c = some o := fun c o hc q => hk' c o (fun hm => by
        have := List.mem_singleton.mp hm
        subst this
        rcases hc with hc | hc <;> (rw [hc] at hI133; exact absurd hI133 (by decide))) q
      exact ⟨ps, isCode_at a k, tableAt_at b k⟩
  | succ j ih =>
    intro i s₀ s hi x G hgs
    have hlt : i < N := by omega
    refine seg_forYield rfl rfl rows_k5 rows_k6 ?_
    obtain ⟨d, fr, gd, u, ea, ed, eu⟩ := over_for (A := A) (env := rowsEnv L) (body := rowsBody) (body' := [.Expr (.Yield (some (theE (yieldE rowsBody))) yp) ep]) (orelse := []) (target := .Name (Str.ofString "row") px) (it := .ref I) (k := kk) (p := p) (l := ll) hh
    rw [ea]
    have W := LCg.range_walks (prog := PySem.Challenge.rw_ez0208_01.row.prog) (w := w) (A := ⟨none, d, fr, gd, u⟩) (I := I) rfl tp N
    refine W.item i _ _ _ hlt x.it fun v h1 tk1 hv st1 hk1 => ⟨v, rfl, ?_⟩
    obtain ⟨t', rfl⟩ := hv
    have k1 : ∀ b o, b ≠ I → s.heap.get? b = some o → h1.get? b = some o := fun b o hb e => hk1 b o (by simpa using hb) e
    obtain ⟨v0, hv0⟩ := x.ck
    have hc1 : h1.IsCell (L + 1) v0 := let ⟨o, a, b⟩ := hv0; ⟨o, k1 _ o hLI a, b⟩
    refine wpAny_assign_Name (wpAny_storeName_cell rows_k1 rows_k3 rows_k4 hc1 fun h2 c2 s2 => ?_)
    have k2 : ∀ b o, b ≠ I → b ≠ L + 1 → s.heap.get? b = some o → h2.get? b = some o := fun b o hb hb' e => s2.extBut b o hb' (k1 b o hb e)
    have ex2 : Ex [I, L + 1, 75] s.heap h2 := fun b o hb e => k2 b o (fun q => hb (q ▸ List.mem_cons_self ..)) (fun q => hb (q ▸ List.mem_cons_of_mem _ (List.mem_cons_self ..))) e
    have F2 := x.F.ex far ex2
    obtain ⟨m, ns, em⟩ := x.ns
    obtain ⟨ps, hok, htb⟩ := x.tab
    have kt : ∀ b o, b = 77 ∨ b = 75 → s.heap.get? b = some o → h2.get? b = some o := fun b o hb e => by
      have nI : ∀ z : Nat, z < 133 → (z : Addr) ≠ I ∧ (z : Addr) ≠ L + 1 := fun z hz => ⟨fun q => Nat.lt_irrefl _ (Nat.lt_of_lt_of_le (q ▸ hz) hI133), fun q => by rw [q] at hz; exact Nat.lt_irrefl 133 (Nat.lt_of_le_of_lt (Nat.le_succ_of_le hL133) hz)⟩
      rcases hb with rfl | rfl
      · exact k2 _ _ (nI 77 (by decide)).1 (nI 77 (by decide)).2 e
      · exact k2 _ _ (nI 75 (by decide)).1 (nI 75 (by decide)).2 e
    have it2 : IsRangeIter h2 I (tp + ((i + 1 : Nat) : Int) * 1) ((N : Int) - ((i + 1 : Nat) : Int)) 1 := s2.extBut _ _ (Ne.symm hLI) st1
    have ns2 : h2.Ns L m := ns.at' fun o e => k2 _ o hLI2 hL0 e
    have hnl : C ≠ L + 1 := by
      rintro rfl
      obtain ⟨o, a, b⟩ := hv0
      rw [x.hC] at a; cases a; cases b
    have hC2 : h2.get? C = some (LCg.lst ys) := k2 _ _ hCI hnl x.hC
    refine rows_elt (m := m) (C := C) (ys := ys) (ws := lets l nc) F2.X F2.T F2 hbm (by omega) (by omega) ns2 em hC2 hys hlw (by rw [strs_len hys]; simpa [lets] using hnc) c2 (by omega) (by omega) (isCode_at hok kt) (tableAt_at htb kt) fun h3 tk3 gs T vs more x3 ok3 tb3 gn lT g3 sv => ?_
    dsimp only at x3 gn lT
    have hBT : @LE.le Nat _ B T := Nat.le_of_lt (Nat.lt_of_le_of_lt hBI (lT _ _ it2))
    intro kap hkap
    have e0 : N - 1 - j = i := by omega
    refine ⟨?_, G.trans ⟨h3, tk3, gs, rfl, fun b o hb hp e => ?_, gn.gg hgs, fun _ => ⟨_, ok3, tb3⟩⟩, fun s'' hA => hkap s'' (ih (i + 1) s'' s'' (by omega) ?_ (GRel.refl _ _ _ _ _) ?_)⟩
    · rw [e0]
      refine ⟨T, vs, rfl, hBT, g3, ?_⟩
      rw [rowT_eq] at sv; simpa using sv
    · have hb75 : b ≠ 75 := fun q => hb (by rw [q]; simp)
      have hbL : b ≠ L + 1 := fun q => hb (by rw [q]; simp)
      by_cases hbI : b = I
      · subst hbI
        rcases hp with hp | hp
        · exact absurd (Nat.lt_of_lt_of_le hp hBI) (Nat.lt_irrefl _)
        · rw [x.it] at e; cases e; exact absurd (fun _ _ z => nomatch z) hp
      · exact x3 b o hb75 (k2 b o hbI hbL e)
    · refine RInv.ex (s := { s with heap := h3, toks := tk3, gens := gs }) ?_ hW hA.1 n1 n2 n3 n4 n5
      have ex3 : Ex [I, L + 1, 75] h2 h3 := fun b o hb e => x3 b o (fun q => hb (by rw [q]; simp)) e
      have n75 : ∀ b o, h2.get? b = some o → o.cls ≠ .none → h3.get? b = some o := fun b o e hc => x3 b o (fun q => by rw [q, (tableAt_at htb kt).2] at e; cases e; exact hc rfl) e
      refine ⟨F2.ex far ex3, ⟨m, ns2.at' fun o e => x3 _ o (fun q => ?_) e, em⟩, n75 _ _ hC2 (by simp [LCg.lst]), ⟨_, let ⟨o, a, b⟩ := c2; ⟨o, x3 _ o (fun q => ?_) a, b⟩⟩, ⟨_, ok3, tb3⟩, n75 _ _ it2 (by simp)⟩
      · subst q
        obtain ⟨o', _, _, a, b, _⟩ := ns2
        rw [(tableAt_at htb kt).2] at a; cases a; cases b
      · obtain ⟨o', a', b'⟩ := c2
        rw [q, (tableAt_at htb kt).2] at a'; cases a'; cases b'
    · rw [hA.2.2.1]; exact Nat.le_trans hgs gn.2.1
theorem rows_seg {s₀ : Shared} {m₀ : Str → Option Value} {txt y : Str} {tx : Tok} {r b : Int} {q : Nat} (hh : A.handled = none) (hd : A.depth + 99 < recursionLimit) (hu : A.units + 950 < cLine)
    (F : WF w.params mg mb bm ob s₀.heap) (ns : s₀.heap.Ns L m₀) (em : m₀ (Str.ofString "range_string") = some (.str txt tx)) (ck : ∃ v, s₀.heap.IsCell (L + 1) v) (tab : ∃ ps, s₀.heap.IsCode 77 75 ps ∧ s₀.heap.TableAt 77 75 ps)
    (K : Told txt y (some l) (some tp) (some r) (some b) q) (hl3 : l = 1 ∨ l = 26 ∨ l = 701) (q1 : l ≤ r) (q2 : r < l + 4) (hb1 : 1 ≤ tp) (q3 : tp ≤ b) (q4 : b < tp + 4) (hb4 : b ≤ 15)
    (hW : Far bm wc) (n1 : L ∉ wc) (n3 : L + 1 ∉ wc) (n4 : 75 ∉ wc) (hwc : ∀ c, c ∈ wc → ∃ o, s₀.heap.get? c = some o) (live : ∃ z o, @LE.le Nat _ B (z + 1) ∧ s₀.heap.get? z = some o) (hL133 : @LE.le Nat _ 133 L) (far : Far bm [L, L + 1, 75]) (hgs : g + 1 ≤ s₀.gens.size)
    (hnc : nc = (r + 1 - l).toNat) (hN : N = (b + 1 - tp).toNat) :
    PySem.Seg (model PySem.Challenge.rw_ez0208_01.row.prog w) A (RR J75 B [L, L + 1, 75] g) (YY J75 B [L, L + 1, 75] wc g N (fun i => Tup1 B (rowT l tp nc i))) N s₀
      (.func rowsBody (rowsEnv L)) ((model PySem.Challenge.rw_ez0208_01.row.prog w).den (.func rowsBody (rowsEnv L))) [] s₀ := by
  obtain ⟨d, fr, gd, u, ea, ed, eu⟩ := over_func (A := A) (env := rowsEnv L) (body := rowsBody) hh
  have hL75 : ∀ {h : Heap} {m : Str → Option Value}, h.Ns L m → ∀ {ps : Array Value}, h.TableAt 77 75 ps → (75 : Nat) ≠ L := fun _ _ _ => Nat.ne_of_lt (Nat.lt_of_lt_of_le (by decide) hL133)
  have fL : Far bm [L] := fun b hb => far b (by rw [List.mem_singleton.mp hb]; exact List.mem_cons_self ..)
  refine seg_func ?_
  show PySem.Seg _ _ _ _ _ _ _ ((execs (List.drop 0 rowsBody) (rowsEnv L)).wrap _ _ _ _) [] s₀
  refine seg_pre 0 ?_
  rw [ea]
  refine rows_s0 (m := m₀) F.X F.T (by omega) (by omega) ns em K fun h1 tk1 m1 t1 t2 t3 t4 x1 ns1 e1 e2 e3 e4 => ⟨rfl, ?_⟩
  have F1 := F.ex fL x1
  refine seg_pre 1 ?_
  rw [ea]
  refine rows_s1 (m := m1) F1.X F1.T (by omega) (by omega) ns1 e2 e4 fun h2 tk2 R tr ur vr x2 ns2 _ hr => ⟨rfl, ?_⟩
  have F2 := F1.ex fL x2
  refine seg_pre 2 ?_
  rw [ea]
  refine rows_s2 (m := fun y => if y = Str.ofString "rows" then some (.ref R) else m1 y) F2.X F2.T (by omega) (by omega) ns2 ((if_neg (by decide)).trans e1) ((if_neg (by decide)).trans e3) hl3 q1 q2 fun h3 tk3 C ys x3 ns3 hnew hC hys => ⟨rfl, ?_⟩
  have F3 := F2.ex fL x3
  dsimp only at x1 x2 x3 hnew
  have x123 : Ex [L] s₀.heap h3 := ex_trans x1 (ex_trans x2 x3)
  have hr3 : IsRange h3 R tp (b + 1) 1 tr ur vr := x3 _ _ (fun hm => range_ne ns2 hr (List.mem_singleton.mp hm)) hr
  obtain ⟨px, pi, yp, ep, fp, e5⟩ := rows_for
  rw [e5]
  refine seg_execs_cons (seg_For (fun _ => rfl) ?_)
  rw [ea]
  refine nm_local (env := rowsEnv L) ns3 ((if_neg (by decide)).trans (if_pos rfl)) ?_ rows_k1 rows_k2 (by decide)
  have e9 : tp + (N : Int) = b + 1 := by omega
  rw [← e9] at hr3
  refine wpAny_pyIter_range hr3 (small_one (by omega) (by omega) (by omega) (by omega)) ?_
  intro p
  dsimp only
  generalize hit : ({ cls := .type "range_iterator", data := .fields #[rawInt tp, rawInt (Builtin.Range.rangeSize tp (tp + (N : Int)) 1), rawInt 1] } : Obj) = oit
  have up : Ext h3 (h3.push oit) := fun b o e => Heap.get?_push_of_some _ e
  have hck : ∃ v, h3.IsCell (L + 1) v := let ⟨v, o, a, b⟩ := ck; ⟨v, o, x123 _ _ (fun hm => absurd (List.mem_singleton.mp hm) (Nat.succ_ne_self L)) a, b⟩
  have h75L : ∀ c : Nat, c < 133 → (c : Addr) ∉ [L] := fun c hc hm => by
    have := List.mem_singleton.mp hm
    subst this
    exact Nat.lt_irrefl _ (Nat.lt_of_lt_of_le hc hL133)
  have htab : ∃ ps, h3.IsCode 77 75 ps ∧ h3.TableAt 77 75 ps := by
    obtain ⟨ps, a, b⟩ := tab
    have k : ∀ c o, c = 77 ∨ c = 75 → s₀.heap.get? c = some o → h3.get? c = some o := fun c o hc q => by
      rcases hc with rfl | rfl
      · exact x123 _ _ (h75L 77 (by decide)) q
      · exact x123 _ _ (h75L 75 (by decide)) q
    exact ⟨ps, isCode_at a k, tableAt_at b k⟩
  have G3 : GRel J75 B [L, L + 1, 75] g s₀ { s₀ with heap := h3, toks := tk3 } := ⟨h3, tk3, s₀.gens, rfl, fun b o hb hp e => x123 b o (fun hm => hb (by rw [List.mem_singleton.mp hm]; simp)) e, GG.refl _ _, fun _ => htab⟩
  have lL : @LT.lt Nat _ L h3.objs.size := ns3.lt
  have lL1 : @LT.lt Nat _ (L + 1) h3.objs.size := let ⟨_, _, a, _⟩ := hck; Heap.lt_size a
  have lC : @LT.lt Nat _ C h3.objs.size := Heap.lt_size hC
  have lbm : @LT.lt Nat _ bm h3.objs.size := Heap.lt_size F3.obj
  have hI133 : @LE.le Nat _ 133 h3.objs.size := Nat.le_of_lt (Nat.lt_of_le_of_lt hL133 lL)
  have hwcl : ∀ c, c ∈ wc → c ≠ C ∧ @LT.lt Nat _ c h3.objs.size := fun c hc => by
    obtain ⟨o, ho⟩ := hwc c hc
    have hcL : c ∉ [L] := fun hm => n1 (List.mem_singleton.mp hm ▸ hc)
    exact ⟨hnew c o (ex_trans x1 x2 c o hcL ho), Heap.lt_size (x123 c o hcL ho)⟩
  have hBI : @LE.le Nat _ B h3.objs.size := by
    obtain ⟨z, o, hz, hzo⟩ := live
    by_cases hzL : z ∈ [L]
    · rw [List.mem_singleton.mp hzL] at hz
      exact Nat.le_trans hz lL
    · exact Nat.le_trans hz (Heap.lt_size (x123 z o hzL hzo))
  have hlw : ∀ x ∈ lets l nc, x.length ≤ 3 := by
    intro x hx
    obtain ⟨j, hj, rfl⟩ := List.mem_map.mp hx
    have := List.mem_range.mp hj
    exact upS_len (isC_of hl3 (by omega) (by omega))
  refine rows_loop (mg := mg) (mb := mb) (ob := ob) (C := C) (I := h3.objs.size) (ys := ys) hh (by omega) (by omega) (by rw [hnc]; exact hys) (by omega) hlw (far 75 (by simp)).1.symm hb1 (by omega) hW n1 (fun hm => (hwcl _ hm).1 rfl) n3 n4 (fun hm => Nat.lt_irrefl _ (hwcl _ hm).2) hL133 hI133 hBI (Nat.ne_of_lt lL1) (Nat.succ_ne_self L).symm (Nat.ne_of_lt lL) (Nat.ne_of_lt lC) ?_ (fun s₁ s₂ c' hG => ?_) N 0 s₀ _ (by omega) ?_ ?_ hgs
  · intro c hc
    rcases List.mem_cons.mp hc with rfl | hc
    · exact ⟨(Nat.ne_of_lt lbm).symm, .inl hI133⟩
    · exact far c (List.mem_cons_of_mem _ hc)
  · exact seg_end (.ok (.ret .none)) ⟨rfl, rfl, hG⟩
  · refine ⟨F3.ex fL (ex_ext up), ⟨_, ns3.keeps up, if_pos rfl⟩, up _ _ hC, let ⟨v, o, a, b⟩ := hck; ⟨v, o, up _ _ a, b⟩, let ⟨ps, a, b⟩ := htab; ⟨ps, a.keeps up, b.keeps up⟩, ?_⟩
    have : (h3.push oit).get? h3.objs.size = some oit := Heap.get?_push_size _ (by rw [← hit]; rfl)
    have e7 : Builtin.Range.rangeSize tp (tp + (N : Int)) 1 = ((N : Nat) : Int) := by rw [rangeSize_nat]; omega
    rw [← hit, e7] at this
    rw [← hit, e7]
    show _ = _
    rw [this]
    simp
  · exact G3.trans ⟨_, _, _, rfl, ExP.ext up, GG.refl _ _, fun ⟨ps, a, b⟩ => ⟨ps, a.keeps up, b.keeps up⟩⟩
end
end Mine
end
section
open PySem PySem.W PySem.Calls PySem.Spec PyProof.Rows
set_option Elab.async false
set_option maxRecDepth 100000
set_option maxHeartbeats 1000000
set_option linter.unusedVariables false
set_option linter.unusedSimpArgs false
namespace Mine
theorem fillK21 : PySem.Challenge.rw_ez0208_01 = PySem.Challenge.rw_ez0208_01 → (∀ P, Mine.hd.heap_39 P = Mine.hd.heap_39 P) := by k_fill; intros; rfl
section
variable {prog : Program} {w : World} {A : Around} {E : Value → Shared → Prop} {s : Shared} {Q : Value → Shared → Prop}
theorem enterGen {K : Frag} {p : Program} {loose : List Str} {mg mb : Str → Option Value} {name qual : Str} {params : Arguments} {body : List Stmt} {scope : Scope} {dV kV doc pm cdv ct oc : Value} {an od : Option Addr} {osl : Array (Option Value)} {f : Addr} {args : Args} {binds : List (Str × Value)}
    (X : K.In s.heap) (T : TopRead p loose mg mb s.heap)
    (ho : K.lookup f = some ⟨oc, od, .func (fnOf name qual params body scope dV kV doc pm an cdv ct), osl⟩) (hcd : codeIn K cdv qual = true) (hroom : A.depth < recursionLimit)
    (hbind : BindsTo s (fnOf name qual params body scope dV kV doc pm an cdv ct) args binds)
    (hkind : ∀ x ∈ binds, scope.names.lookup x.1 = some .local ∨ (scope.names.lookup x.1 = some .cell ∧ ((cellsFrom (s.heap.objs.size + 1) scope.names []).lookup x.1).isSome = true))
    (h : ∀ h₁ tk nm qn, InCallC s s.heap.objs.size (bindL (envOfC qual scope s.heap.objs.size f cdv).kindOf binds fun _ => none) (cellsFrom (s.heap.objs.size + 1) scope.names []) (bindC (envOfC qual scope s.heap.objs.size f cdv).kindOf binds fun _ => none) { s with heap := h₁, toks := tk } →
      Q (.ref h₁.objs.size) { s with heap := h₁.push { cls := .type "generator", data := .fields #[.int s.gens.size 0, nm, qn] }, toks := tk + 1 + 1, gens := s.gens.push (.fresh (.func body (envOfC qual scope s.heap.objs.size f cdv))) })
    (hco : scope.isCoroutine = false) (hgen : scope.isGenerator = true) (hk : scope.kind = .function) : wpAny (model prog w) A (call (.ref f) args.pos args.kw) Q E s := by
  refine wpAny_call ?_
  refine codeAny_call_generator (fd := fnOf name qual params body scope dV kV doc pm an cdv ct) (body := body) hroom (X _ _ ho) rfl hco hgen rfl (codeRec_of X hcd) (hbind _ _ _ _ ?_)
  refine wpAny_newFunctionEnv_cells hk hkind fun env henv s₁ hs₁ => ⟨?_, ?_⟩
  · obtain ⟨h₁, tk, rfl, k⟩ := hs₁.done
    exact T.nolimit.keeps k
  · subst henv
    obtain ⟨h₁, tk, rfl, k⟩ := hs₁.done
    exact h h₁ tk _ _ hs₁
end
theorem call_rows : ∀ {w : World} {mg mb : Str → Option Value} {d u : Nat} {fr : Option (List Env)} {gd : Option (List Code)} {s : Shared} {Q E : Value → Shared → Prop} {txt : Str} {tx : Tok}
    (X : (Mine.hd.heap_39 w.params).In s.heap) (T : TopRead Mine.hd.view_39 LO mg mb s.heap) (hd : d + 90 < recursionLimit)
    (ret : ∀ h' tk L a m, Ext s.heap h' → (∀ b o, s.heap.get? b = some o → @LT.lt Nat _ b L) → @LE.le Nat _ s.heap.objs.size L → h'.Ns L m → m (Str.ofString "range_string") = some (.str txt tx) → h'.IsCell (L + 1) none → h'.IsGen a s.gens.size → Q (.ref a) { s with heap := h', toks := tk, gens := s.gens.push (.fresh (.func rowsBody (rowsEnv L))) }),
    wpAny (model PySem.Challenge.rw_ez0208_01.row.prog w) ⟨none, d, fr, gd, u⟩ (call (.ref 78) [.str txt tx] []) Q E s := by
  k_fill
  intro w mg mb d u fr gd s Q E txt tx X T hd ret
  have eS : rowsScope = rowsScope := rfl
  conv at eS => rhs; whnf
  have eB : rowsBody = rowsBody := rfl
  conv at eB => rhs; whnf
  unfold rowsEnv at ret
  rw [eS, eB] at ret
  refine' enterGen (args := ⟨[.str txt tx], []⟩) (binds := [(Str.ofString "range_string", .str txt tx)]) X T ?k1 ?k2 ?k3 ?k4 ?k5 ?_ ?c1 ?c2 ?c3
  case k1 => k_is
  case k2 => k_is
  case k3 => (dsimp only; omega)
  case k4 => exact BindsTo.of_eq rfl
  case c1 => rfl
  case c2 => rfl
  case c3 => rfl
  case k5 => exact fun x hx => by cases hx with | head => exact .inl rfl | tail _ h => cases h
  intro h₁ tk nm qn x
  refine ret _ _ _ _ _ (fun b o e => Heap.get?_push_of_some _ (x.toInCall.keep b o e)) (fun b o e => Heap.lt_size e) (Nat.le_refl _) (x.toInCall.ns.push _) ?_ ?_ ⟨_, _, _, Heap.get?_push_size _ rfl, rfl, rfl, rfl⟩
  · rfl
  · have := x.cell (Str.ofString "row") (s.heap.objs.size + 1) (by rfl)
    exact this.keeps fun b o e => Heap.get?_push_of_some _ e
end Mine
end
section
open PySem PySem.W PySem.Calls PySem.Spec PyProof.Rows
set_option Elab.async false
set_option maxRecDepth 100000
set_option maxHeartbeats 1000000
set_option linter.unusedVariables false
set_option linter.unusedSimpArgs false
namespace Mine
theorem fillK22 : PySem.Challenge.rw_ez0208_01 = PySem.Challenge.rw_ez0208_01 → (∀ P, Mine.hd.heap_39 P = Mine.hd.heap_39 P) := by k_fill; intros; rfl
def ifE : Option Expr := match lawBody.drop 10 with | .If _ (_ :: .If t _ _ _ :: _) _ _ :: _ => some t | _ => none
/-- the two comparisons of the inner test -/
def cmpE (k : Nat) : Option Expr := match ifE with | some (.BoolOp _ es _) => es[k]? | _ => none
def leftE (o : Option Expr) : Option Expr := match o with | some (.Compare l _ _ _) => some l | _ => none
def rightE (o : Option Expr) : Option Expr := match o with | some (.Compare _ _ (r :: _) _) => some r | _ => none
def iterE (o : Option Expr) : Option Expr := match o with | some (.ListComp _ (⟨_, i, _, _⟩ :: _) _ _) => some i | _ => none
end Mine
end
section
open PySem PySem.W PySem.Calls PySem.Spec PyProof.Rows
set_option Elab.async false
set_option maxRecDepth 100000
set_option maxHeartbeats 1000000
set_option linter.unusedVariables false
set_option linter.unusedSimpArgs false
namespace Mine
theorem fillK23 : PySem.Challenge.rw_ez0208_01 = PySem.Challenge.rw_ez0208_01 → (∀ P, Mine.hd.heap_39 P = Mine.hd.heap_39 P) := by k_fill; intros; rfl
local macro_rules | `(tactic| walk_at "eval Name") => `(tactic| (k_dflt (first
  | (name_kind "local"; refine nm_hasLC (by with_reducible assumption) ?_)
  | (name_kind "local"; refine nm_localE (by with_reducible assumption) (by with_reducible assumption) ?_)
  | (name_kind "globalImplicit"; refine nm_glob (by with_reducible assumption) (by with_reducible assumption) (by k_is) ?_)
  | (name_kind "globalImplicit"; refine nm_built (by with_reducible assumption) (by with_reducible assumption) (by k_is) (by boot_by_name) (by decide) ?_))))
theorem list_tup {prog : Program} {w : World} {A : Around} {E : Value → Shared → Prop} {s : Shared} {Q : Value → Shared → Prop} {T : Addr} {vs : List Value} (hT : s.heap.get? T = some (tupObj vs)) (hz : vs.length ≤ 4)
    (h : ∀ h' n, Ext s.heap h' → h'.get? s.heap.objs.size = some (lstN vs n) → Q (.ref s.heap.objs.size) { s with heap := h' }) : wpAny (model prog w) A (call (.type "list") [.ref T]) Q E s :=
  call_list_seq T (.inr rfl) hT rfl rfl (fun h' c' e g => h h' c' e g) (by rw [PySem.sizeLine_eq]; show vs.toArray.size ≤ _; rw [List.size_toArray]; omega)
def LstAt (s : Shared) (vs : List Value) (y : Value) (s₁ : Shared) : Prop := Keeps s s₁ ∧ ∃ n, y = .ref s.heap.objs.size ∧ s₁.heap.get? s.heap.objs.size = some (lstN vs n)
local macro_rules | `(tactic| walk_at "call type:list") => `(tactic| (k_dflt (refine list_tup (by with_reducible assumption) (by with_reducible assumption) ?_); intro h' n' e' g'))
theorem bare_all {gs : Array GenState} (h : ∀ (k : Nat) st, gs[k]? = some st → st.bare = true) : ∀ y ∈ gs, y.bare = true := fun y hy => by
  obtain ⟨i, hi, rfl⟩ := Array.mem_iff_getElem.mp hy
  exact h i _ (Array.getElem?_eq_getElem hi)
/-- list(one) in the comprehension, one a tuple of texts -/
theorem el_list0 : ∀ {w : World} {mg mb : Str → Option Value} {d u : Nat} {fr : Option (List Env)} {gd : Option (List Code)} {s : Shared} {L fa C T : Addr} {cd : Value} {vs : List Value}
    (X : (Mine.hd.heap_39 w.params).In s.heap) (T' : TopRead Mine.hd.view_39 LO mg mb s.heap) (hd : d + 100 < recursionLimit) (hu : u + 1000 < cLine) (ho : HasL C (Str.ofString "one") (.ref T) s.heap) (hT : s.heap.get? T = some (tupObj vs)) (hz : vs.length ≤ 4),
    wpAny (model PySem.Challenge.rw_ez0208_01.row.prog w) ⟨none, d, fr, gd, u⟩ (eval (theE (eltE (leftE (cmpE 0)))) (compEnvC (scE (leftE (cmpE 0))) [] C (lawEnv L fa cd))) (LstAt s vs) FF s := by
  k_fill
  intro w mg mb d u fr gd s L fa C T cd vs X T' hd hu ho hT hz
  have eS : lawScope = lawScope := rfl
  conv at eS => rhs; whnf
  have eN : scE (leftE (cmpE 0)) = scE (leftE (cmpE 0)) := rfl
  conv at eN => rhs; whnf
  have eI : theE (eltE (leftE (cmpE 0))) = theE (eltE (leftE (cmpE 0))) := rfl
  conv at eI => rhs; whnf
  rw [eI, eN]
  unfold lawEnv
  rw [eS]
  clear eI eN eS
  k_steps
  exact ⟨⟨_, _, rfl, by assumption⟩, _, rfl, by assumption⟩
def Called0 (txt : Str) (tx : Tok) (s : Shared) (xv : Value) (s₁ : Shared) : Prop := ∃ h' tk L a m, s₁ = { s with heap := h', toks := tk, gens := s.gens.push (.fresh (.func rowsBody (rowsEnv L))) } ∧ xv = .ref a ∧ Ext s.heap h' ∧ @LE.le Nat _ s.heap.objs.size L ∧ h'.Ns L m ∧ m (Str.ofString "range_string") = some (.str txt tx) ∧ h'.IsCell (L + 1) none ∧ h'.IsGen a s.gens.size
local macro_rules | `(tactic| walk_at "call ref") => `(tactic| ((with_reducible show wpAny _ _ (call (Value.ref 78) [Value.str _ _] _) _ _ _); k_dflt (refine call_rows (by with_reducible assumption) (by with_reducible assumption) (by omega) ?_); intro h' tk' L' a' m' e' l1' l2' n' c' k' g'))
theorem rows_it : ∀ {w : World} {mg mb : Str → Option Value} {d u : Nat} {fr : Option (List Env)} {gd : Option (List Code)} {s : Shared} {L fa : Addr} {cd : Value} {m : Str → Option Value} {txt : Str} {tx : Tok}
    (X : (Mine.hd.heap_39 w.params).In s.heap) (T' : TopRead Mine.hd.view_39 LO mg mb s.heap) (hd : d + 100 < recursionLimit) (hu : u + 1000 < cLine) (ns : s.heap.Ns L m) (em : m (Str.ofString "text") = some (.str txt tx)),
    wpAny (model PySem.Challenge.rw_ez0208_01.row.prog w) ⟨none, d, fr, gd, u⟩ (eval (theE (iterE (leftE (cmpE 0)))) (lawEnv L fa cd)) (Called0 txt tx s) FF s := by
  k_fill
  intro w mg mb d u fr gd s L fa cd m txt tx X T' hd hu ns em
  have eS : lawScope = lawScope := rfl
  conv at eS => rhs; whnf
  have eI : theE (iterE (leftE (cmpE 0))) = theE (iterE (leftE (cmpE 0))) := rfl
  conv at eI => rhs; whnf
  rw [eI]
  unfold lawEnv
  rw [eS]
  clear eI eS
  k_steps
  exact ⟨_, _, _, _, _, rfl, rfl, by assumption, by assumption, by assumption, by assumption, by assumption, by assumption⟩
theorem rows_lc : ∃ elt px iter pos, theE (leftE (cmpE 0)) = .ListComp elt [⟨.Name (Str.ofString "one") px, iter, [], 0⟩] (scE (leftE (cmpE 0))) pos ∧ elt = theE (eltE (leftE (cmpE 0))) ∧ iter = theE (iterE (leftE (cmpE 0))) ∧ (∀ env x, foldedSetIterable iter env x = pure x) ∧ (∀ env, closureFor (scE (leftE (cmpE 0))) env = pure []) ∧ (∀ y ∈ (scE (leftE (cmpE 0))).names, y.2 ≠ .cell) ∧ (scE (leftE (cmpE 0))).kind = .function ∧ (∀ y ∈ (scE (leftE (cmpE 0))).names, y.2 = .local → (scE (leftE (cmpE 0))).names.lookup y.1 = some .local) ∧ (scE (leftE (cmpE 0))).names.lookup (Str.ofString "one") = some .local :=
  ⟨_, _, _, _, rfl, rfl, rfl, fun _ _ => by rfl, fun _ => by rfl, by decide +kernel, rfl, by decide +kernel, by rfl⟩
theorem rows_comp {w : World} {mg mb : Str → Option Value} {bm : Addr} {ob : Obj} {d u : Nat} {fr : Option (List Env)} {gd : Option (List Code)} {s : Shared} {Q : Value → Shared → Prop} {L fa : Addr} {cd : Value} {m : Str → Option Value} {txt y : Str} {tx : Tok} {l tp r b : Int} {q : Nat}
    (F : WF w.params mg mb bm ob s.heap) (hd : d + 100 < recursionLimit) (hu : u + 1000 < cLine) (ns : s.heap.Ns L m) (em : m (Str.ofString "text") = some (.str txt tx)) (K : Told txt y (some l) (some tp) (some r) (some b) q)
    (hl3 : l = 1 ∨ l = 26 ∨ l = 701) (q1 : l ≤ r) (q2 : r < l + 4) (hb1 : 1 ≤ tp) (q3 : tp ≤ b) (q4 : b < tp + 4) (hb4 : b ≤ 15) (hbm : bm ≠ 75) (hj : J75 s.heap) (hg : AllBare s.gens) (h133 : @LE.le Nat _ 133 s.heap.objs.size)
    (ret : ∀ h' tk gs D ys, Ex [75] s.heap h' → J75 h' → (∀ b o, s.heap.get? b = some o → @LT.lt Nat _ b D) → h'.get? D = some (LCg.lst ys) → ys.length = (b + 1 - tp).toNat → (∀ (j : Nat) y, ys[j]? = some y → Row1 0 (rowT l tp (r + 1 - l).toNat j) y h') → AllBare gs → Q (.ref D) { s with heap := h', toks := tk, gens := gs }) :
    wpAny (model PySem.Challenge.rw_ez0208_01.row.prog w) ⟨none, d, fr, gd, u⟩ (eval (theE (leftE (cmpE 0))) (lawEnv L fa cd)) Q FF s := by
  obtain ⟨elt, px, iter, pos, e1, e2, e3, hfold, hclos, hcell, hkind, hnames, hone⟩ := rows_lc
  rw [e1]
  refine comp_L (hclos _) hcell hkind hnames (wpAny_mono (?_ : wpAny _ _ _ (Called0 txt tx s) _ _) (fun xv s₁ q9 => ?_) fun _ _ q => q) (fun x => hfold _ x)
  · rw [e3]; exact rows_it F.X F.T (by omega) (by omega) ns em
  obtain ⟨h1, tk1, L', a, m1, rfl, rfl, x1, lL', nsL, emL, ckL, hgen⟩ := q9
  refine wpAny_pyIter_gen hgen ?_
  intro h₄ tk₄ x4 hsz4 hD4 hns4
  dsimp only at x4 hsz4 hD4 hns4
  have hgen4 : h₄.IsGen a s.gens.size := hgen.keeps x4
  refine ⟨fun Q' q => wpAny_pyIter_gen hgen4 q, (b + 1 - tp).toNat, ?_⟩
  have x14 : Ext s.heap h₄ := fun b o e => x4 b o (x1 b o e)
  have F4 : WF w.params mg mb bm ob h₄ := F.ex (W := []) (fun b hb => by cases hb) (ex_ext x14)
  have nsL4 := nsL.keeps x4
  have ckL4 := ckL.keeps x4
  have lL1 : @LT.lt Nat _ L' h1.objs.size := nsL.lt
  have lK1 : @LT.lt Nat _ (L' + 1) h1.objs.size := let ⟨_, a, _⟩ := ckL; Heap.lt_size a
  have la1 : @LT.lt Nat _ a h1.objs.size := let ⟨_, _, _, a, _⟩ := hgen; Heap.lt_size a
  have up2 : ∀ {b : Nat}, b < h1.objs.size → b < h₄.objs.size := fun hb => by rw [hsz4]; exact Nat.lt_succ_of_lt (Nat.lt_succ_of_lt hb)
  have lD : @LT.lt Nat _ h1.objs.size h₄.objs.size := by rw [hsz4]; exact Nat.lt_succ_of_lt (Nat.lt_succ_self _)
  have lZ : @LT.lt Nat _ (h1.objs.size + 1) h₄.objs.size := by rw [hsz4]; exact Nat.lt_succ_self _
  have low : ∀ b o, s.heap.get? b = some o → @LT.lt Nat _ b L' := fun b o e => Nat.lt_of_lt_of_le (Heap.lt_size e) lL'
  have hcsl : @LT.lt Nat _ cStatics L' := let ⟨_, ⟨o, _, _, e, _⟩, _⟩ := F.T.nolimit; low _ _ e
  have h133L : @LE.le Nat _ 133 L' := Nat.le_trans h133 lL'
  have tabl : ∃ o, s.heap.get? 75 = some o := let ⟨_, _, t⟩ := hj; ⟨_, t.2⟩
  have haL : a ≠ L' := fun e => by
    obtain ⟨o, _, _, g1, _, g2, _⟩ := hgen
    obtain ⟨o', _, _, n1, n2, _⟩ := nsL
    rw [e, n1] at g1; cases g1; rw [n2] at g2; cases g2
  have haK : a ≠ L' + 1 := fun e => by
    obtain ⟨o, _, _, g1, _, g2, _⟩ := hgen
    obtain ⟨o', n1, n2⟩ := ckL
    rw [e, n1] at g1; cases g1; rw [n2] at g2; cases g2
  have haP : a ≠ 75 := fun e => by
    obtain ⟨o, _, _, g1, g2, _, _⟩ := hgen
    obtain ⟨ps, _, t⟩ := hj
    have t2 := x1 _ _ t.2
    rw [e, t2] at g1
    have g3 := Option.some.inj g1
    rw [← g3] at g2
    cases g2
  have far : Far bm [L', L' + 1, 75] := by
    intro b hb
    have lb : @LT.lt Nat _ bm L' := low _ _ F.obj
    simp only [List.mem_cons, List.not_mem_nil, or_false] at hb
    rcases hb with rfl | rfl | rfl
    · exact ⟨(Nat.ne_of_lt lb).symm, .inl h133L⟩
    · exact ⟨(Nat.ne_of_lt (Nat.lt_succ_of_lt lb)).symm, .inl (Nat.le_succ_of_le h133L)⟩
    · exact ⟨Ne.symm hbm, by decide⟩
  have farW : Far bm [h1.objs.size, h1.objs.size + 1] := by
    intro b hb
    have lb : @LT.lt Nat _ bm h1.objs.size := Nat.lt_trans (low _ _ F.obj) lL1
    have l1 : @LE.le Nat _ 133 h1.objs.size := Nat.le_trans h133L (Nat.le_of_lt lL1)
    simp only [List.mem_cons, List.not_mem_nil, or_false] at hb
    rcases hb with rfl | rfl
    · exact ⟨(Nat.ne_of_lt lb).symm, .inl l1⟩
    · exact ⟨(Nat.ne_of_lt (Nat.lt_succ_of_lt lb)).symm, .inl (Nat.le_succ_of_le l1)⟩
  have nW : ∀ b : Nat, b < h1.objs.size → (b : Addr) ∉ [h1.objs.size, h1.objs.size + 1] := fun b hb hm => by
    simp only [List.mem_cons, List.not_mem_nil, or_false] at hm
    rcases hm with rfl | rfl
    · exact Nat.lt_irrefl _ hb
    · exact Nat.lt_irrefl _ (Nat.lt_of_succ_lt hb)
  have nG : ∀ b : Nat, b < L' → b ≠ 75 → (b : Addr) ∉ [L', L' + 1, 75] := fun b hb hP hm => by
    simp only [List.mem_cons, List.not_mem_nil, or_false] at hm
    rcases hm with rfl | rfl | rfl
    · exact Nat.lt_irrefl _ hb
    · exact Nat.lt_irrefl _ (Nat.lt_of_succ_lt hb)
    · exact hP rfl
  have lj : ∀ (h h' : Heap), J75 h → Ex [h1.objs.size, h1.objs.size + 1] h h' → J75 h' := fun h h' hj e => by
    obtain ⟨ps, t1, t2⟩ := hj
    have k : ∀ c o, c = 77 ∨ c = 75 → h.get? c = some o → h'.get? c = some o := fun c o hc q => e c o (nW c (by
      have : c < 133 := by rcases hc with rfl | rfl <;> decide
      exact Nat.lt_of_lt_of_le this (Nat.le_trans h133L (Nat.le_of_lt lL1)))) q
    exact ⟨ps, isCode_at t1 k, tableAt_at t2 k⟩
  have hj4 : J75 h₄ := let ⟨ps, t1, t2⟩ := hj; ⟨ps, t1.keeps x14, t2.keeps x14⟩
  have lP : @LT.lt Nat _ 75 h1.objs.size := Nat.lt_of_lt_of_le (by decide) (Nat.le_trans h133L (Nat.le_of_lt lL1))
  have mem3 : ∀ {b : Addr}, b ∈ [L', L' + 1, 75] → b = L' ∨ b = L' + 1 ∨ b = 75 := fun h => by simpa only [List.mem_cons, List.not_mem_nil, or_false] using h
  have mem2 : ∀ {b : Addr}, b ∈ [h1.objs.size, h1.objs.size + 1] → b = h1.objs.size ∨ b = h1.objs.size + 1 := fun h => by simpa only [List.mem_cons, List.not_mem_nil, or_false] using h
  have gltB : ∀ b, b ∈ [L', L' + 1, 75] → @LT.lt Nat _ b h1.objs.size := fun b hb => by
    rcases mem3 hb with rfl | rfl | rfl
    · exact lL1
    · exact lK1
    · exact lP
  have farA : Far bm (h1.objs.size :: (h1.objs.size + 1) :: [L', L' + 1, 75]) := fun b hb => by
    rcases List.mem_cons.mp hb with rfl | hb
    · exact farW _ (List.mem_cons_self ..)
    · rcases List.mem_cons.mp hb with rfl | hb
      · exact farW _ (List.mem_cons_of_mem _ (List.mem_cons_self ..))
      · exact far b hb
  refine compT_gen (J := J75) (B := h₄.objs.size) (wg := [L', L' + 1, 75]) (g := s.gens.size) (Out := fun i => Tup1 h₄.objs.size (rowT l tp (r + 1 - l).toNat i)) (G := fun i => Row1 h₄.objs.size (rowT l tp (r + 1 - l).toNat i)) rfl (by dsimp only; omega) (by rw [PySem.sizeLine_eq]; omega) (tgt_L hone hkind) na1 ?ha (up2 la1) ?hc (up2 (Nat.lt_trans hcsl lL1)) (nW _ la1) (nW _ (Nat.lt_trans hcsl lL1)) ?hw ?hDg ?hZg lD lZ lj hj4 ?hr hD4 ⟨_, hns4⟩ ?mono ?omono ?el ?fin
  case ha =>
    intro hm
    rcases mem3 hm with h | h | h
    · exact haL h
    · exact haK h
    · exact haP h
  case hc => exact nG _ hcsl (by decide)
  case hw => exact fun b hb => up2 (gltB b hb)
  case hDg => exact fun hm => Nat.lt_irrefl _ (gltB _ hm)
  case hZg => exact fun hm => Nat.lt_irrefl _ (Nat.lt_of_succ_lt (gltB _ hm))
  case mono =>
    rintro i y h h' ⟨T, vs, n, rfl, hB, g, sv⟩ k
    exact ⟨T, vs, n, rfl, hB, k _ _ hB (by simp [Priv, lstN]) g, sv⟩
  case omono =>
    rintro i y h h' ⟨T, vs, rfl, hB, g, sv⟩ k
    exact ⟨T, vs, rfl, hB, k _ _ hB (by simp [Priv, tupObj]) g, sv⟩
  case el =>
    rintro i v s' hi ⟨T, vs, rfl, hB, g, sv⟩ hone' hx
    have ex : Ex (h1.objs.size :: (h1.objs.size + 1) :: [L', L' + 1, 75]) h₄ s'.heap := fun b o hb e => hx b o hb (.inl (Heap.lt_size e)) e
    have F' := F4.ex farA ex
    rw [e2]
    refine wpAny_mono (el_list0 F'.X F'.T (by omega) (by omega) hone' g (by rw [strs_len sv]; simp [rowT]; omega)) (fun y s₁ q9 => ?_) fun _ _ q => q
    obtain ⟨kp, n, rfl, g'⟩ := q9
    exact ⟨⟨_, vs, n, rfl, Nat.le_of_lt (Nat.lt_of_le_of_lt hB (Heap.lt_size g)), g', sv⟩, kp⟩
  case fin =>
    intro h' tk gs ys hx hP hJ hD hlen hpt hG hf
    obtain ⟨m', hm'⟩ := hP
    refine ⟨m', hm', fun h'' hs => ret h'' tk gs h1.objs.size ys (fun b o hb e => ?_) (lj _ _ hJ fun b o hb e => hs.extBut b o (fun q => hb (by rw [q]; simp)) e) (fun b o e => Nat.lt_trans (low b o e) lL1) ((hs.2 _ na1).trans hD) hlen (fun j y hy => ?_) (bare_all fun k st e => ?_)⟩
    · have hbL := low b o e
      have hb1 : @LT.lt Nat _ b h1.objs.size := Nat.lt_trans hbL lL1
      refine hs.extBut b o (Nat.ne_of_lt (Nat.lt_succ_of_lt hb1)) (hx b o (fun hm => ?_) (.inl (up2 hb1)) (x14 b o e))
      rcases List.mem_cons.mp hm with q | hm
      · exact Nat.ne_of_lt hb1 q
      · rcases List.mem_cons.mp hm with q | hm
        · exact Nat.ne_of_lt (Nat.lt_succ_of_lt hb1) q
        · exact nG b hbL (fun q => hb (List.mem_singleton.mpr q)) hm
    · obtain ⟨T, vs, n, rfl, hB, g, sv⟩ := hpt j y hy
      exact ⟨T, vs, n, rfl, Nat.zero_le _, hs.extBut T _ (fun q => by rw [q] at hB; exact Nat.lt_irrefl _ (Nat.lt_of_lt_of_le lZ hB)) g, sv⟩
    · rcases Nat.lt_trichotomy k s.gens.size with z | z | z
      · rw [hG.1 k z] at e
        have e' : s.gens[k]? = some st := by rw [← e]; exact (Array.getElem?_push_lt (h := z)).symm ▸ (Array.getElem?_eq_getElem z)
        exact hg st (Array.mem_of_getElem? e')
      · rw [z, hf] at e; cases e; rfl
      · exact hG.2.2 (fun k' st' hk' e' => by
          have : (s.gens.push (.fresh (.func rowsBody (rowsEnv L'))))[k']? = none := Array.getElem?_eq_none (by rw [Array.size_push]; omega)
          exact absurd (this.symm.trans e') (by simp)) k st z e
  case hr =>
    refine ⟨hgen4, F4.T.nolimit, _, Array.getElem?_push_size .., fun s'' hA => ⟨rfl, ?_⟩⟩
    have F5 := F4.ex farW hA.1
    refine rows_seg (mg := mg) (mb := mb) (bm := bm) (ob := ob) (txt := txt) (y := y) (tx := tx) (r := r) (b := b) (q := q) rfl (by dsimp only; omega) (by dsimp only; omega) F5 (nsL4.at' fun o e => hA.1 _ o (nW _ lL1) e) emL ?_ (lj _ _ hj4 hA.1) K hl3 q1 q2 hb1 q3 q4 hb4 farW (nW _ lL1) (nW _ lK1) (nW _ lP) ?_ ⟨h1.objs.size + 1, ?_⟩ h133L far ?_ rfl rfl
    · obtain ⟨o, n1, n2⟩ := ckL4
      exact ⟨_, o, hA.1 _ o (nW _ lK1) n1, n2⟩
    · intro c hc
      rcases mem2 hc with rfl | rfl
      · exact hA.2.1 _ _ hD4
      · obtain ⟨o, _, _, e, _⟩ := hns4
        exact hA.2.1 _ _ e
    · obtain ⟨o, _, _, e, _⟩ := hns4
      obtain ⟨o', e'⟩ := hA.2.1 _ _ e
      exact ⟨o', Nat.le_of_eq hsz4, e'⟩
    · rw [hA.2.2.1]; exact Nat.le_of_eq (Array.size_push _).symm
end Mine
end
section
open PySem PySem.W PySem.Calls PySem.Spec PyProof.Rows
set_option Elab.async false
set_option maxRecDepth 100000
set_option maxHeartbeats 1000000
set_option linter.unusedVariables false
set_option linter.unusedSimpArgs false
namespace Mine
/-- a lazy generator expression over a range -/
def LInv (a : Int) (n : Nat) (C I : Addr) (j : Nat) (h : Heap) : Prop := (∃ m, h.Ns C m) ∧ IsRangeIter h I (a + (j : Int) * 1) ((n : Int) - (j : Int)) 1
def LRel (C I : Addr) (s₀ s : Shared) : Prop := ∃ h' tk, s = { s₀ with heap := h', toks := tk } ∧ Ex [C, I] s₀.heap h'
theorem LRel.refl (C I : Addr) (s : Shared) : LRel C I s s := ⟨_, _, rfl, fun _ _ _ e => e⟩
theorem LRel.trans {C I : Addr} {s s' s'' : Shared} (x : LRel C I s s') (y : LRel C I s' s'') : LRel C I s s'' := by
  obtain ⟨h1, t1, rfl, a1⟩ := x
  obtain ⟨h2, t2, rfl, a2⟩ := y
  exact ⟨h2, t2, rfl, ex_trans a1 a2⟩
def RL (C I : Addr) : GenEnd := fun n s₀ r s₁ => r = .ok .next ∧ (n = 0 ∧ LRel C I s₀ s₁)
def YL (a : Int) (n : Nat) (C I : Addr) (Fv : Nat → Value → Prop) (Kw : Heap → Prop) : Protocol := fun m s₀ v s kap => Fv (n - 1 - m) v ∧ LRel C I s₀ s ∧ LInv a n C I (n - m) s.heap ∧ ∀ s'', LInv a n C I (n - m) s''.heap → Kw s''.heap → kap (.send .none) s''
section
variable {prog : Program} {w : World} {A : Around} {a : Int} {n : Nat} {C I : Addr} {Fv : Nat → Value → Prop} {Kw : Heap → Prop}
theorem over_comp {A : Around} {elt : Expr} {gens : List Comprehension} {scope : Scope} {pos : Pos} {it acc : Value} {env : Env} (hh : A.handled = none) : (A.over (.compLoop (.GeneratorExp elt gens scope pos) 0 it acc env) []).handled = none ∧ (A.over (.compLoop (.GeneratorExp elt gens scope pos) 0 it acc env) []).depth ≤ A.depth + 4 ∧ (A.over (.compLoop (.GeneratorExp elt gens scope pos) 0 it acc env) []).units ≤ A.units + 12 := by
  refine ⟨hh, ?_, ?_⟩
  · have q : (A.over (.compLoop (.GeneratorExp elt gens scope pos) 0 it acc env) []).depth ≤ A.depth + 1 := Nat.le_of_eq rfl
    omega
  · have q : (A.over (.compLoop (.GeneratorExp elt gens scope pos) 0 it acc env) []).units ≤ A.units + 3 := Nat.le_of_eq rfl
    omega
theorem seg_lazy {elt iter : Expr} {x : Str} {px : Pos} {scope : Scope} {pos : Pos} {cenv : Env} (hC : cenv.locals = C)
    (hh : A.handled = none) (hx : cenv.kindOf x = some .local) (hp : (cenv.scope.kind == .class || (cenv.scope.kind == .module && cenv.locals != cenv.globals)) = false)
    (hco : cenv.scope.isCoroutine = false) (hCI : C ≠ I) (kw : ∀ h h', Kw h → Ex [C, I] h h' → Kw h')
    (hel : ∀ (A' : Around) i t (s₂ : Shared) m₂, A'.handled = none → A'.depth ≤ A.depth + 4 → A'.units ≤ A.units + 12 → i < n → s₂.heap.Ns C m₂ → m₂ x = some (.int (a + (i : Int)) t) → Kw s₂.heap → wpAny (model prog w) A' (eval elt cenv) (fun y s₃ => Fv i y ∧ Keeps s₂ s₃) FF s₂) :
    ∀ (k j : Nat) (s₀ s : Shared), j + k = n → LInv a n C I j s.heap → Kw s.heap → LRel C I s₀ s →
      PySem.Seg (model prog w) A (RL C I) (YL a n C I Fv Kw) k s₀
        (.compLoop (.GeneratorExp elt [⟨.Name x px, iter, [], 0⟩] scope pos) 0 (.ref I) .none cenv)
        ((model prog w).den (.compLoop (.GeneratorExp elt [⟨.Name x px, iter, [], 0⟩] scope pos) 0 (.ref I) .none cenv)) [] s := by
  subst hC
  intro k
  obtain ⟨hh', hd', hu'⟩ := over_comp (A := A) (elt := elt) (gens := [⟨.Name x px, iter, [], 0⟩]) (scope := scope) (pos := pos) (it := .ref I) (acc := .none) (env := cenv) hh
  generalize hB : A.over (.compLoop (.GeneratorExp elt [⟨.Name x px, iter, [], 0⟩] scope pos) 0 (.ref I) .none cenv) [] = B at hh' hd' hu'
  have W := LCg.range_walks (prog := prog) (w := w) (A := B) (I := I) hh' a n
  induction k with
  | zero =>
    intro j s₀ s hj hst hkw hr
    have hjn : j = n := by omega
    subst hjn
    show PySem.Seg _ A _ _ _ s₀ _ ((compTurn (.GeneratorExp elt [⟨.Name x px, iter, [], 0⟩] scope pos) 0 (.ref I) .none cenv).onRaise (leaving cenv)) [] s
    rw [compTurn_gen, Sem.onRaise_eq_wrap]
    refine seg_bind_wrap (wpAny_standAt ?_)
    refine seg_bind_wrap ?_
    rw [hB]
    refine W.done s _ _ hst.2 fun h' tk hk' => ?_
    exact seg_end (.ok .next) ⟨rfl, rfl, hr.trans ⟨h', tk, rfl, fun b o hb e => hk' b o (fun hm => hb (by rw [List.mem_singleton.mp hm]; simp)) e⟩⟩
  | succ k ih =>
    intro j s₀ s hj hst hkw hr
    have hlt : j < n := by omega
    show PySem.Seg _ A _ _ _ s₀ _ ((compTurn (.GeneratorExp elt [⟨.Name x px, iter, [], 0⟩] scope pos) 0 (.ref I) .none cenv).onRaise (leaving cenv)) [] s
    rw [compTurn_gen, Sem.onRaise_eq_wrap]
    refine seg_bind_wrap (wpAny_standAt ?_)
    refine seg_bind_wrap ?_
    rw [hB]
    refine W.item j s _ _ hlt hst.2 fun v h₁ tk₁ hv hst₁ hk₁ => ?_
    obtain ⟨t, rfl⟩ := hv
    obtain ⟨⟨m, hn⟩, hit⟩ := hst
    have k1 : ∀ b o, b ≠ I → s.heap.get? b = some o → h₁.get? b = some o := fun b o hb e => hk₁ b o (by simpa using hb) e
    refine seg_bind_wrap (wpAny_of_eq (rfl : letOwnedTupleGo (.Name x px) (.ref I) (.int (a + (j : Int)) t) = pure ()) ?_)
    refine seg_bind_wrap (wpAny_assign_Name (wpAny_storeName_local hx (hn.at' fun o e => k1 _ o hCI e) (fun h₂ hn₂ hs₂ => ?_) hp))
    have ex2 : Ex [cenv.locals, I] s.heap h₂ := fun b o hb e => hs₂.extBut b o (fun q => hb (by rw [q]; simp)) (k1 b o (fun q => hb (by rw [q]; simp)) e)
    have it2 : IsRangeIter h₂ I (a + ((j + 1 : Nat) : Int) * 1) ((n : Int) - ((j + 1 : Nat) : Int)) 1 := hs₂.extBut _ _ (Ne.symm hCI) hst₁
    refine seg_bind_wrap (wpAny_pure ?_)
    simp only [if_true]
    have hy : ∀ v, yieldOut cenv v = yieldValue v := fun v => by simp only [yieldOut, hco, Bool.false_eq_true, if_false]
    simp only [hy]
    rw [Sem.bind_eq_wrap', Sem.bind_eq_wrap', Sem.wrap_wrap, Sem.wrap_wrap]
    refine seg_wrap ?_
    rw [hB]
    refine wpAny_mono (hel B j t _ _ hh' hd' hu' hlt hn₂ (if_pos rfl) (kw _ _ hkw ex2)) (fun y s₄ h₄ => ?_) fun _ _ e => e.elim
    obtain ⟨hFy, h₄, tk₄, rfl, hk₄⟩ := h₄
    dsimp only at hk₄
    have e0 : n - 1 - k = j := by omega
    have e1 : n - k = j + 1 := by omega
    refine seg_at (seg_yield rfl rfl rfl ⟨by rw [e0]; exact hFy, hr.trans ⟨h₄, tk₄, rfl, ex_trans ex2 (ex_ext hk₄)⟩, ?_, fun s'' hI hK => ?_⟩)
    · rw [e1]; exact ⟨⟨_, hn₂.keeps hk₄⟩, hk₄ _ _ it2⟩
    · rw [e1] at hI
      exact seg_again rfl (ih (j + 1) s'' s'' (by omega) hI hK (LRel.refl _ _ _))
end
end Mine
end
section
open PySem PySem.W PySem.Calls PySem.Spec PyProof.Rows
set_option Elab.async false
set_option maxRecDepth 100000
set_option maxHeartbeats 1000000
set_option linter.unusedVariables false
set_option linter.unusedSimpArgs false
namespace Mine
def GOne (g : Nat) (a b : Array GenState) : Prop := b.size = a.size ∧ (∀ k, k ≠ g → b[k]? = a[k]?) ∧ ∀ x, b[g]? = some x → x.bare = true
theorem GOne.of {g : Nat} {s s₁ : Shared} {x y : GenState} (q : s₁.gens = (s.setGen g x).gens) (hy : y.bare = true) (hg : g < s.gens.size) : GOne g s.gens (s₁.setGen g y).gens := by
  refine ⟨by rw [setGen_size, q, setGen_size], fun k hk => by rw [setGen_ne hk, q, setGen_ne hk], fun z hz => ?_⟩
  have : (s₁.setGen g y).gens[g]? = some y := by
    have hlt : g < s₁.gens.size := by rw [q, setGen_size]; exact hg
    simp [Shared.setGen, hlt]
  rw [this] at hz; cases hz; exact hy
theorem GOne.gg {g k : Nat} {a b : Array GenState} (q : GOne g a b) (hk : k ≤ g) : GG k a b := by
  refine ⟨fun i hi => q.2.1 i (Nat.ne_of_lt (Nat.lt_of_lt_of_le hi hk)), Nat.le_of_eq q.1.symm, fun h i st hi e => ?_⟩
  by_cases hig : i = g
  · rw [hig] at e; exact q.2.2 _ e
  · rw [q.2.1 i hig] at e; exact h i st hi e
def LazyReady (prog : Program) (w : World) (A : Around) (a : Int) (n : Nat) (C I : Addr) (Fv : Nat → Value → Prop) (Kw : Heap → Prop) (ac gc j : Nat) (s : Shared) : Prop :=
  s.heap.IsGen ac gc ∧ LInv a n C I j s.heap ∧ ∃ gs, s.gens[gc]? = some gs ∧ ∀ s'', LInv a n C I j s''.heap → Kw s''.heap → gs.Goes (model prog w) A.in1 (RL C I) (YL a n C I Fv Kw) (n - j) (.send .none) s''
section
variable {prog : Program} {w : World} {A : Around} {s : Shared} {a : Int} {n : Nat} {C I : Addr} {Fv : Nat → Value → Prop} {Kw : Heap → Prop} {ac gc j : Nat}
theorem lazy_move {s' : Shared} (h : LazyReady prog w A a n C I Fv Kw ac gc j s) (e : ∀ b o, b = ac ∨ b = C ∨ b = I → s.heap.get? b = some o → s'.heap.get? b = some o) (eg : s'.gens[gc]? = s.gens[gc]?) : LazyReady prog w A a n C I Fv Kw ac gc j s' := by
  obtain ⟨⟨o, nm, qn, ho, r⟩, ⟨⟨m, hn⟩, hit⟩, gs, hgs, hgo⟩ := h
  exact ⟨⟨o, nm, qn, e _ _ (.inl rfl) ho, r⟩, ⟨⟨m, hn.at' fun o q => e _ o (.inr (.inl rfl)) q⟩, e _ _ (.inr (.inr rfl)) hit⟩, gs, eg.trans hgs, hgo⟩
theorem lazy_item (hh : A.handled = none) (hroom : A.depth < recursionLimit) (h : LazyReady prog w A a n C I Fv Kw ac gc j s) (hK : Kw s.heap) (hl : s.heap.NoLimit) (hj : j < n) (ha : ac ∉ [C, I]) :
    wpAny (model prog w) A (pyNext (.ref ac)) (fun r s₁ => ∃ v, r = some v ∧ Fv j v ∧ LazyReady prog w A a n C I Fv Kw ac gc (j + 1) s₁ ∧ ∃ h' tk gs, s₁ = { s with heap := h', toks := tk, gens := gs } ∧ Ex [C, I] s.heap h' ∧ GOne gc s.gens gs) FF s := by
  obtain ⟨hg, hI, gs, hgs, hgo⟩ := h
  obtain ⟨m, hm⟩ : ∃ m, n - j = m + 1 := ⟨n - j - 1, by omega⟩
  rw [hm] at hgo
  have hlt : gc < s.gens.size := by
    rcases Nat.lt_or_ge gc s.gens.size with q | q
    · exact q
    · rw [Array.getElem?_eq_none q] at hgs; cases hgs
  refine wpAny_pyNext_genexpQ (P := fun n s₀ s₁ => n = 0 ∧ LRel C I s₀ s₁) (Y := YL a n C I Fv Kw) hh hl hroom hg hgs (hgo _ hI hK) (fun v s₁ gs' hb hv => ?_) (fun s₁ hp h' hk => ?_)
  · obtain ⟨hF, ⟨h1, tk1, rfl, x1⟩, hI1, hk⟩ := hv
    have e0 : n - 1 - (m + 1 - 1) = j := by omega
    have e1 : n - (m + 1 - 1) = j + 1 := by omega
    rw [e0] at hF
    rw [e1] at hI1 hk
    have hgs1 : (({ s.setGen gc .running with heap := h1, toks := tk1 } : Shared).setGen gc gs').gens[gc]? = some gs' := setGen_self (gs := .running) (setGen_self hgs)
    refine ⟨v, rfl, hF, ⟨?_, hI1, gs', hgs1, fun s'' hI2 hK2 => ?_⟩, _, _, _, rfl, x1, GOne.of (x := .running) rfl hb hlt⟩
    · obtain ⟨o, nm, qn, ho, r⟩ := hg
      exact ⟨o, nm, qn, x1 _ _ ha ho, r⟩
    · have e2 : n - (j + 1) = m := by omega
      rw [e2]
      exact hk s'' hI2 hK2
  · exact absurd hp.1 (Nat.succ_ne_zero m)
theorem lazy_end (kw : ∀ h h', Kw h → Ex [C, I] h h' → Kw h') (hh : A.handled = none) (hroom : A.depth < recursionLimit) (h : LazyReady prog w A a n C I Fv Kw ac gc n s) (hK : Kw s.heap) (hl : s.heap.NoLimit) :
    wpAny (model prog w) A (pyNext (.ref ac)) (fun r s₁ => r = none ∧ ∃ h' tk gs, s₁ = { s with heap := h', toks := tk, gens := gs } ∧ Ex [C, I] s.heap h' ∧ GOne gc s.gens gs) FF s := by
  obtain ⟨hg, hI, gs, hgs, hgo⟩ := h
  rw [Nat.sub_self] at hgo
  have hlt : gc < s.gens.size := by
    rcases Nat.lt_or_ge gc s.gens.size with q | q
    · exact q
    · rw [Array.getElem?_eq_none q] at hgs; cases hgs
  refine wpAny_pyNext_genexpQ (P := fun n s₀ s₁ => n = 0 ∧ LRel C I s₀ s₁) (Y := YL a n C I Fv Kw) hh hl hroom hg hgs (hgo _ hI hK) (fun v s₁ gs' hb hv => ?_) (fun s₁ hp h' hk => ?_)
  · obtain ⟨hF, ⟨h1, tk1, rfl, x1⟩, hI1, hk⟩ := hv
    simp only [Nat.zero_sub, Nat.sub_zero] at hI1 hk
    exact (hk { s.setGen gc .running with heap := h1, toks := tk1 } hI1 (kw _ _ hK x1)).elim
  · obtain ⟨_, h1, tk1, rfl, x1⟩ := hp
    exact ⟨rfl, h', _, _, rfl, fun b o hb e => hk b o (x1 b o hb e), GOne.of (x := .running) (s₁ := { s.setGen gc .running with heap := h1, toks := tk1 }) rfl rfl hlt⟩
theorem lazy_fresh {elt iter : Expr} {x : Str} {px : Pos} {scope : Scope} {pos : Pos} {cenv : Env} (hC : cenv.locals = C)
    (hh : A.handled = none) (hx : cenv.kindOf x = some .local) (hp : (cenv.scope.kind == .class || (cenv.scope.kind == .module && cenv.locals != cenv.globals)) = false)
    (hco : cenv.scope.isCoroutine = false) (hCI : C ≠ I) (kw : ∀ h h', Kw h → Ex [C, I] h h' → Kw h')
    (hel : ∀ (A' : Around) i t (s₂ : Shared) m₂, A'.handled = none → A'.depth ≤ A.depth + 4 → A'.units ≤ A.units + 13 → i < n → s₂.heap.Ns C m₂ → m₂ x = some (.int (a + (i : Int)) t) → Kw s₂.heap → wpAny (model prog w) A' (eval elt cenv) (fun y s₃ => Fv i y ∧ Keeps s₂ s₃) FF s₂)
    (hg : s.heap.IsGen ac gc) (hI : LInv a n C I 0 s.heap) (hgs : s.gens[gc]? = some (.fresh (.compStart (.GeneratorExp elt [⟨.Name x px, iter, [], 0⟩] scope pos) 0 (.ref I) .none cenv))) : LazyReady prog w A a n C I Fv Kw ac gc 0 s := by
  refine ⟨hg, hI, _, hgs, fun s'' hI2 hK2 => ⟨rfl, ?_⟩⟩
  have loop := seg_lazy (prog := prog) (w := w) (A := A.in1) (a := a) (n := n) (C := C) (I := I) (Fv := Fv) (Kw := Kw) (iter := iter) (px := px) (scope := scope) (pos := pos) hC hh hx hp hco hCI kw (fun A' i t s₂ m₂ h1 h2 h3 => hel A' i t s₂ m₂ h1 h2 (by have : A.in1.units = A.units + 1 := rfl; omega)) n 0 s'' s'' (by omega) hI2 hK2 (LRel.refl _ _ _)
  show PySem.Seg _ A.in1 _ _ _ s'' _ ((compStart (.GeneratorExp elt [⟨.Name x px, iter, [], 0⟩] scope pos) 0 (.ref I) .none cenv).onRaise (leaving cenv)) [] s''
  unfold compStart
  rw [Sem.onRaise_eq_wrap]
  show PySem.Seg _ A.in1 _ _ _ s'' _ ((ask >>= _).wrap _ _ _ _) [] s''
  refine seg_bind_wrap (wpAny_askSetting ?_)
  split
  · exact seg_again rfl loop
  · have W := LCg.range_walks (prog := prog) (w := w) (A := A.in1.over (.compStart (.GeneratorExp elt [⟨.Name x px, iter, [], 0⟩] scope pos) 0 (.ref I) .none cenv) []) (I := I) hh a n
    first
      | exact seg_bind_wrap (wpAny_rule (seg_bind_wrap (wpAny_standAt (seg_bind_wrap (W.self 0 s'' _ _ hI2.2 (seg_again rfl loop))))))
      | (refine seg_bind_wrap (wpAny_rule ?_); show PySem.Seg _ A.in1 _ _ _ s'' _ ((standAt iter.pos >>= _).wrap _ _ _ _) [] s''; exact seg_bind_wrap (wpAny_standAt (seg_bind_wrap (W.self 0 s'' _ _ hI2.2 (seg_again rfl loop)))))
end
end Mine
end
section
local macro_rules | `(tactic| walk_at "mine pad 0") => `(tactic| skip)
local macro_rules | `(tactic| walk_at "mine pad 1") => `(tactic| skip)
local macro_rules | `(tactic| walk_at "mine pad 2") => `(tactic| skip)
local macro_rules | `(tactic| walk_at "mine pad 3") => `(tactic| skip)
local macro_rules | `(tactic| walk_at "mine pad 4") => `(tactic| skip)
local macro_rules | `(tactic| walk_at "mine pad 5") => `(tactic| skip)
local macro_rules | `(tactic| walk_at "mine pad 6") => `(tactic| skip)
local macro_rules | `(tactic| walk_at "mine pad 7") => `(tactic| skip)
local macro_rules | `(tactic| walk_at "mine pad 8") => `(tactic| skip)
local macro_rules | `(tactic| walk_at "mine pad 9") => `(tactic| skip)
local macro_rules | `(tactic| walk_at "mine pad 10") => `(tactic| skip)
local macro_rules | `(tactic| walk_at "mine pad 11") => `(tactic| skip)
local macro_rules | `(tactic| walk_at "mine pad 12") => `(tactic| skip)
local macro_rules | `(tactic| walk_at "mine pad 13") => `(tactic| skip)
open PySem PySem.W PySem.Calls PySem.Spec PyProof.Rows
set_option Elab.async false
set_option maxRecDepth 100000
set_option maxHeartbeats 1000000
set_option linter.unusedVariables false
set_option linter.unusedSimpArgs false
namespace Mine
theorem fillK24 : PySem.Challenge.rw_ez0208_01 = PySem.Challenge.rw_ez0208_01 → (∀ P, Mine.hd.heap_39 P = Mine.hd.heap_39 P) := by k_fill; intros; rfl
def J80 (h : Heap) : Prop := ∃ ps, h.IsCode 84 80 ps ∧ h.TableAt 84 80 ps
def colT (l tp : Int) (nr : Nat) (j : Nat) : List Str := (List.range nr).map fun (i : Nat) => cellT (l + (j : Int)) (tp + (i : Int))
local macro_rules | `(tactic| walk_at "eval Name") => `(tactic| (k_dflt (first
  | (name_kind "local"; refine nm_hasLC (by with_reducible assumption) ?_)
  | (name_kind "local"; refine nm_genL (by with_reducible assumption) (by with_reducible assumption) ?_)
  | (name_kind "local"; refine nm_localE (by with_reducible assumption) (by with_reducible assumption) ?_)
  | (name_kind "free"; refine' nm_free ?hv ?_ ?hc; (case hc => rfl); (case hv => with_reducible assumption))
  | (name_kind "cell"; refine' nm_cell ?hv ?_ ?hc; (case hc => rfl); (case hv => with_reducible assumption))
  | (name_kind "globalImplicit"; refine nm_glob (by with_reducible assumption) (by with_reducible assumption) (by k_is) ?_)
  | (name_kind "globalImplicit"; refine nm_built (by with_reducible assumption) (by with_reducible assumption) (by k_is) (by boot_by_name) (by decide) ?_))))
local macro_rules | `(tactic| walk_at "call builtin:str.format") => `(tactic| ((with_reducible show wpAny _ _ (call (Value.builtin "str.format") [Value.str _ _, Value.str _ _, Value.int _ _]) _ _ _); with_unfolding_all refine fmt_e (by assumption) (by assumption) (by assumption) ?_; intro t' k'))
local macro_rules | `(tactic| walk_at "getMethod str") => `(tactic| (refine KFm.method ?_))
theorem cols_elt : ∀ {w : World} {mg mb : Str → Option Value} {bm : Addr} {ob : Obj} {d u : Nat} {fr : Option (List Env)} {gd : Option (List Code)} {s : Shared} {L R : Addr} {m : Str → Option Value} {tp b : Int} {t tr ur vr : Tok} {x : Str} {ps : Array Value} {Q : Value → Shared → Prop}
    (X : (Mine.hd.heap_39 w.params).In s.heap) (T : TopRead Mine.hd.view_39 LO mg mb s.heap) (F : WF w.params mg mb bm ob s.heap) (hbm : bm ≠ 80) (hd : d + 90 < recursionLimit) (hu : u + 900 < cLine) (ns : s.heap.Ns L m) (em : m (Str.ofString "rows") = some (.ref R)) (hR : IsRange s.heap R tp (b + 1) 1 tr ur vr) (hw : x.length ≤ 3) (hb1 : 1 ≤ tp) (q3 : tp ≤ b) (q4 : b < tp + 4) (hb4 : b ≤ 15)
    (ck : s.heap.IsCell (L + 1) (some (.str x t))) (hok : s.heap.IsCode 84 80 ps) (ht : s.heap.TableAt 84 80 ps)
    (ret : ∀ h' tk gs T vs more, Heap.ExtBut 80 s.heap h' → h'.IsCode 84 80 (ps ++ more) → h'.TableAt 84 80 (ps ++ more) → GNew s.gens gs → (∀ b o, s.heap.get? b = some o → @LT.lt Nat _ b T) → h'.get? T = some (tupObj vs) → StrsAre vs ((List.range (b + 1 - tp).toNat).map fun (i : Nat) => x ++ Str.ofString (toString (tp + (i : Int)))) → Q (.ref T) { s with heap := h', toks := tk, gens := gs }),
    wpAny (model PySem.Challenge.rw_ez0208_01.row.prog w) ⟨none, d, fr, gd, u⟩ (eval (theE (yieldE colsBody)) (colsEnv L)) Q FF s := by
  k_fill
  intro w mg mb bm ob d u fr gd s L R m tp b t tr ur vr x ps Q X T F hbm hd hu ns em hR hw hb1 q3 q4 hb4 ck hok ht ret
  have eS : colsScope = colsScope := rfl
  conv at eS => rhs; whnf
  have eI : theE (yieldE colsBody) = theE (yieldE colsBody) := rfl
  conv at eI => rhs; whnf
  unfold colsEnv
  rw [eS, eI]
  clear eS eI
  k_steps
  have e9 : tp + ((b + 1 - tp).toNat : Int) = b + 1 := by omega
  rw [← e9] at hR
  generalize hN : (b + 1 - tp).toNat = N at hR ret e9
  refine wpAny_mono (gx (prog := PySem.Challenge.rw_ez0208_01.row.prog) (w := w) (A := ⟨none, d, fr, gd, u⟩) (s := s) (cl := [(Str.ofString "col", L + 1)]) (c := 84) (cP := 80) (bm := bm) (ps := ps) (mg := mg) (ob := ob) (n := N) (P := fun i v => ∃ t, v = .int (tp + (i : Int)) t ∧ i < N) (F := fun i y => ∃ t, y = .str (x ++ Str.ofString (toString (tp + (i : Int)))) t ∧ i < N) rfl (by rfl) (by with_unfolding_all rfl) (by decide) (by rfl) (by rfl) (by rfl) (by dsimp only; omega) (fun _ => by with_unfolding_all rfl) rfl hok ht T.nolimit (by decide) T.g F.bn F.ne F.obj F.cl F.di F.da (by show mainGlobals ≠ 80; decide) hbm ?hn ?hit ?el) (fun v s₁ q => ?fin) fun _ _ q => q
  case hn => rw [PySem.sizeLine_eq]; omega
  case hit =>
    have hlt : @LT.lt Nat _ R s.heap.objs.size := Heap.lt_size hR
    have c80 : R ≠ 80 := by rintro rfl; have := ht.2.symm.trans hR; cases this
    refine nm_localE ns em (wpAny_pyIter_range hR (small_one (by omega) (by omega) (by omega) (by omega)) ?_)
    refine ⟨s.heap.objs.size, [s.heap.objs.size], fun i h => i ≤ N ∧ IsRangeIter h s.heap.objs.size (tp + (i : Int) * 1) ((N : Int) - (i : Int)) 1, rfl, fun A' hA => ?_, ?_, ?_, ⟨_, _, rfl, fun b o e => Heap.get?_push_of_some _ e⟩, fun b o e q => ?_, fun hm => ?_⟩
    · have W := LCg.range_walks (prog := PySem.Challenge.rw_ez0208_01.row.prog) (w := w) (A := A') (I := s.heap.objs.size) hA tp N
      exact ⟨W.sub, fun i h h' st k => ⟨st.1, W.frame i h h' st.2 k⟩, fun i s Q E hi st hQ => W.item i s Q E hi st.2 fun v h' tk p st' k => hQ v h' tk (let ⟨t, e⟩ := p; ⟨t, e, hi⟩) ⟨hi, st'⟩ k, fun s Q E st hQ => W.done s Q E st.2 hQ, fun i s Q E st q => W.self i s Q E st.2 q⟩
    · refine ⟨Nat.zero_le _, ?_⟩
      have e7 : Builtin.Range.rangeSize tp (tp + (N : Int)) 1 = ((N : Nat) : Int) := by rw [rangeSize_nat]; omega
      rw [e7]
      show _ = _
      rw [Heap.get?_push_size _ rfl]
      simp
    · intro b hb
      rw [List.mem_singleton.mp hb]
      exact ⟨_, Heap.get?_push_size _ rfl⟩
    · exact absurd (q ▸ Heap.lt_size e) (Nat.lt_irrefl _)
    · exact absurd ((List.mem_singleton.mp hm) ▸ Heap.lt_size ht.2) (Nat.lt_irrefl _)
  case el =>
    intro A' E' i v t' code C' m₂ hA hP hns hm hk
    obtain ⟨t2, rfl, hi⟩ := hP
    have ck' : t'.heap.IsCell (L + 1) (some (.str x _)) := let ⟨o, ho, hd⟩ := ck; ⟨o, hk _ o ho (fun q => by rw [q] at ho; have := ht.2.symm.trans ho; cases this; cases hd), hd⟩
    have z1 : 1 ≤ tp + (i : Int) := by omega
    have z2 : tp + (i : Int) ≤ 15 := by omega
    generalize tp + (i : Int) = row at hm z1 z2
    refine wpAny_mono (?_ : wpAny _ _ _ (fun y s₃ => FmtAt x row t' y s₃) _ _) (fun _ _ q => ⟨⟨_, q.1.choose_spec, hi⟩, q.2⟩) (fun _ _ q => q)
    clear X T F ns em hR ck hok ht ret hk
    k_steps
    exact ⟨⟨_, rfl⟩, _, _, rfl, fun _ _ e => e⟩
  case fin =>
    k_steps
    refine q _ fun h' tk gs T vs more x c1 t1 g1 l1 e1 n1 p1 => ret h' tk gs T vs more x c1 t1 g1 l1 e1 (strs_mk (by rw [List.length_map, n1, List.length_range]) fun j y hy => ?_)
    obtain ⟨t', rfl, hj⟩ := p1 j y hy
    exact ⟨_, t', by rw [List.getElem?_map, List.getElem?_range hj]; rfl, rfl⟩
end Mine
end
section
open PySem PySem.W PySem.Calls PySem.Spec PyProof.Rows
set_option Elab.async false
set_option maxRecDepth 100000
set_option maxHeartbeats 1000000
set_option linter.unusedVariables false
set_option linter.unusedSimpArgs false
namespace Mine
theorem fillK25 : PySem.Challenge.rw_ez0208_01 = PySem.Challenge.rw_ez0208_01 → (∀ P, Mine.hd.heap_39 P = Mine.hd.heap_39 P) := by k_fill; intros; rfl
def lazyE : Option Expr := match colsBody.drop 2 with | .Assign _ v _ :: _ => some v | _ => none
def geltE (o : Option Expr) : Option Expr := match o with | some (.GeneratorExp e _ _ _) => some e | _ => none
def gscE (o : Option Expr) : Scope := match o with | some (.GeneratorExp _ _ sc _) => sc | _ => default
def lazyEnv (L C : Addr) (code : Value) : Env := genEnv (gscE lazyE) [] C code builtinsNs (colsEnv L)
local macro_rules | `(tactic| walk_at "eval Name") => `(tactic| (k_dflt (first
  | (name_kind "local"; refine nm_genL (by with_reducible assumption) (by with_reducible assumption) ?_)
  | (name_kind "local"; refine nm_localE (by with_reducible assumption) (by with_reducible assumption) ?_)
  | (name_kind "globalImplicit"; refine nm_glob (by with_reducible assumption) (by with_reducible assumption) (by k_is) ?_)
  | (name_kind "globalImplicit"; refine nm_built (by with_reducible assumption) (by with_reducible assumption) (by k_is) (by boot_by_name) (by decide) ?_))))
local macro_rules | `(tactic| walk_at "call type:range") => `(tactic| (k_dflt (first | refine rng2 ?_ | refine rng1 ?_); intro h' tk' r' t' u' v' e' hr'))
local macro_rules | `(tactic| walk_at "RangeAt") => `(tactic| (exact ⟨⟨_, _, rfl, by assumption⟩, _, _, _, _, rfl, by assumption⟩))
local macro_rules | `(tactic| walk_at "call ref") => `(tactic| ((with_reducible show wpAny _ _ (call (Value.ref 56) [Value.int _ _] _) _ _ _); k_dflt (refine gcl_e (by with_reducible assumption) (by with_reducible assumption) (by omega) (by omega) (by with_reducible assumption) ?_); intro h' tk' t' e'))
def UpAt (c : Int) (s : Shared) (y : Value) (s₃ : Shared) : Prop := (∃ t, y = .str (upS c) t) ∧ Keeps s s₃
theorem lazy_elt : ∀ {w : World} {mg mb : Str → Option Value} {d u : Nat} {fr : Option (List Env)} {gd : Option (List Code)} {s : Shared} {L C : Addr} {code : Value} {m : Str → Option Value} {c : Int} {t : Tok}
    (X : (Mine.hd.heap_39 w.params).In s.heap) (T : TopRead Mine.hd.view_39 LO mg mb s.heap) (hd : d + 70 < recursionLimit) (hu : u + 700 < cLine) (ns : s.heap.Ns C m) (em : m (Str.ofString "col") = some (.int c t)) (hc : IsC c),
    wpAny (model PySem.Challenge.rw_ez0208_01.row.prog w) ⟨none, d, fr, gd, u⟩ (eval (theE (geltE lazyE)) (lazyEnv L C code)) (UpAt c s) FF s := by
  k_fill
  intro w mg mb d u fr gd s L C code m c t X T hd hu ns em hc
  have eS : colsScope = colsScope := rfl
  conv at eS => rhs; whnf
  have eN : gscE lazyE = gscE lazyE := rfl
  conv at eN => rhs; whnf
  have eI : theE (geltE lazyE) = theE (geltE lazyE) := rfl
  conv at eI => rhs; whnf
  unfold lazyEnv colsEnv
  rw [eI, eN, eS]
  clear eS eN eI
  k_steps
  exact ⟨⟨_, rfl⟩, _, _, rfl, by assumption⟩
theorem cols_s2 : ∀ {w : World} {mg mb : Str → Option Value} {bm : Addr} {ob : Obj} {d u : Nat} {fr : Option (List Env)} {gd : Option (List Code)} {s : Shared} {L : Addr} {m : Str → Option Value} {l r : Int} {t1 t2 : Tok} {Q : Flow → Shared → Prop}
    (X : (Mine.hd.heap_39 w.params).In s.heap) (T : TopRead Mine.hd.view_39 LO mg mb s.heap) (F : WF w.params mg mb bm ob s.heap) (hbm : bm ≠ 80) (hd : d + 90 < recursionLimit) (hu : u + 900 < cLine) (ns : s.heap.Ns L m) (hL133 : @LE.le Nat _ 133 L) (e1 : m (Str.ofString "min_col") = some (.int l t1)) (e2 : m (Str.ofString "max_col") = some (.int r t2))
    (hl3 : l = 1 ∨ l = 26 ∨ l = 701) (q1 : l ≤ r) (q2 : r < l + 4) (hj : J80 s.heap)
    (ret : ∀ h' tk C I ac px iter pos code, Ex [L, 80] s.heap h' → J80 h' → h'.Ns L (fun y => if y = Str.ofString "cols" then some (.ref ac) else m y) → (∀ b o, s.heap.get? b = some o → @LT.lt Nat _ b C ∧ @LT.lt Nat _ b I ∧ @LT.lt Nat _ b ac) → C ≠ I → ac ≠ C → ac ≠ I → h'.IsGen ac s.gens.size → LInv l (r + 1 - l).toNat C I 0 h' →
      Q .next { s with heap := h', toks := tk, gens := s.gens.push (.fresh (.compStart (.GeneratorExp (theE (geltE lazyE)) [⟨.Name (Str.ofString "col") px, iter, [], 0⟩] (gscE lazyE) pos) 0 (.ref I) .none (lazyEnv L C code))) }),
    wpAny (model PySem.Challenge.rw_ez0208_01.row.prog w) ⟨none, d, fr, gd, u⟩ (execs ((colsBody.drop 2).take 1) (colsEnv L)) Q FF s := by
  k_fill
  intro w mg mb bm ob d u fr gd s L m l r t1 t2 Q X T F hbm hd hu ns hL133 e1 e2 hl3 q1 q2 hj ret
  have eS : colsScope = colsScope := rfl
  conv at eS => rhs; whnf
  have eN : gscE lazyE = gscE lazyE := rfl
  conv at eN => rhs; whnf
  have eI : theE (geltE lazyE) = theE (geltE lazyE) := rfl
  conv at eI => rhs; whnf
  unfold lazyEnv colsEnv at ret
  unfold colsEnv
  rw [eI, eN, eS] at ret
  rw [eS]
  conv => arg 3; arg 1; whnf
  (try simp only [List.take_succ_cons, List.take_zero])
  clear eS eN eI
  refine wpAny_execs_cons (wpAny_Assign_Name ?_)
  obtain ⟨ps, hok, ht⟩ := hj
  have nlow : ∀ c : Nat, c < 133 → (c : Addr) ≠ L := fun c hc q => by rw [q] at hc; exact Nat.lt_irrefl _ (Nat.lt_of_lt_of_le hc hL133)
  have hL : L ≠ 80 := (nlow 80 (by decide)).symm
  refine wpAny_GeneratorExp_make (cl := []) (by rfl) (by with_unfolding_all rfl) (by decide) (by rfl) (by rfl) (by dsimp only; omega) (wpAny_mono (?_ : wpAny _ _ _ (RangeAt s l (r + 1)) _ _) (fun xv s₁ q => ?_) fun _ _ q => q) (fun _ => by with_unfolding_all rfl)
  · clear ret hok ht F
    k_steps
  · obtain ⟨⟨h1, tk1, rfl, x1⟩, R, t, u', v, rfl, g⟩ := q
    have e9 : l + ((r + 1 - l).toNat : Int) = r + 1 := by omega
    rw [← e9] at g
    refine wpAny_pyIter_range g (small_one (by omega) (by omega) (by omega) (by omega)) ?_
    dsimp only
    have e7 : Builtin.Range.rangeSize l (l + ((r + 1 - l).toNat : Int)) 1 = (((r + 1 - l).toNat : Nat) : Int) := by rw [rangeSize_nat]; omega
    rw [e7]
    have hit0 : IsRangeIter (h1.push { cls := .type "range_iterator", data := .fields #[rawInt l, rawInt (((r + 1 - l).toNat : Nat) : Int), rawInt 1] }) h1.objs.size l (((r + 1 - l).toNat : Nat) : Int) 1 := Heap.get?_push_size _ rfl
    have x2 : Ext s.heap (h1.push { cls := .type "range_iterator", data := .fields #[rawInt l, rawInt (((r + 1 - l).toNat : Nat) : Int), rawInt 1] }) := fun b o e => Heap.get?_push_of_some _ (x1 b o e)
    generalize (h1.push { cls := .type "range_iterator", data := .fields #[rawInt l, rawInt (((r + 1 - l).toNat : Nat) : Int), rawInt 1] }) = h2 at hit0 x2
    have ltI : ∀ b o, s.heap.get? b = some o → @LT.lt Nat _ b h1.objs.size := fun b o e => Heap.lt_size (x1 b o e)
    generalize h1.objs.size = I at hit0 ltI
    refine ⟨T.nolimit.keeps x2, genexprCode_T rfl (hok.keeps x2) (ht.keeps x2) fun code h3 tk3 more x3 hok3 ht3 => ?_⟩
    dsimp only at x3
    have e3 : ∀ b o, s.heap.get? b = some o → b ≠ 80 → h3.get? b = some o := fun b o e hb => x3 b o hb (x2 b o e)
    refine wpAny_builtinsFor (T.g.at' fun o e => e3 _ o e (by show mainGlobals ≠ 80; decide)) F.bn F.ne (e3 _ _ F.obj hbm) F.cl F.di F.da ?_
    have l80 := ltI _ _ ht.2
    have hit3 : IsRangeIter h3 I l (((r + 1 - l).toNat : Nat) : Int) 1 := x3 _ _ (fun q => by rw [q] at l80; exact Nat.lt_irrefl _ l80) hit0
    have lt3 : ∀ b o, s.heap.get? b = some o → @LT.lt Nat _ b h3.objs.size := fun b o e => by
      by_cases hb : b = 80
      · subst hb; exact Heap.lt_size ht3.2
      · exact Heap.lt_size (e3 b o e hb)
    have lI3 : @LT.lt Nat _ I h3.objs.size := Heap.lt_size hit3
    intro h4 hns4 hs4
    dsimp only at hns4 hs4
    have k4 : ∀ b o, h3.get? b = some o → h4.get? b = some o := fun b o e => hs4.extBut b o (Nat.ne_of_lt (Heap.lt_size e)) (Heap.get?_push_of_some _ e)
    have hsz4 : h4.objs.size = h3.objs.size + 1 := by rw [hs4.1, Heap.size_push]
    have hk : ∀ (og : Obj), (h4.push og).Ns L m := fun og => (ns.at' fun o e => Heap.get?_push_of_some _ (k4 _ _ (e3 _ o e hL)))
    refine wpAny_storeName_local (by rfl) (hk _) (fun h' n' s' => wpAny_execs_nil ?_) (by rfl)
    obtain ⟨oL, _, _, eL, _⟩ := ns
    have lL := ltI _ _ eL
    have lL3 := lt3 _ _ eL
    have nP : (80 : Nat) ≠ L := Ne.symm hL
    have k5 : ∀ b o, b ≠ L → h3.get? b = some o → h'.get? b = some o := fun b o hb e => s'.extBut b o hb (Heap.get?_push_of_some _ (k4 _ _ e))
    refine ret h' _ h3.objs.size I h4.objs.size _ _ _ code (fun b o hb e => k5 b o (fun q => hb (by rw [q]; simp)) (e3 b o e (fun q => hb (by rw [q]; simp)))) ⟨_, isCode_at hok3 fun b o hb e => k5 b o ?_ e, tableAt_at ht3 fun b o hb e => k5 b o ?_ e⟩ n' (fun b o e => ⟨lt3 b o e, ltI b o e, ?_⟩) (Nat.ne_of_gt lI3) ?_ ?_ ?_ ⟨⟨_, (hns4.push _).at' fun o e => s'.extBut _ o (Nat.ne_of_gt lL3) e⟩, ?_⟩
    · rcases hb with rfl | rfl
      · exact nlow 84 (by decide)
      · exact nP
    · rcases hb with rfl | rfl
      · exact nlow 84 (by decide)
      · exact nP
    · rw [hsz4]; exact Nat.lt_succ_of_lt (lt3 b o e)
    · rw [hsz4]; exact Nat.succ_ne_self _
    · rw [hsz4]; exact Nat.ne_of_gt (Nat.lt_succ_of_lt lI3)
    · exact ⟨_, _, _, s'.extBut _ _ (by rw [hsz4]; exact Nat.ne_of_gt (Nat.lt_succ_of_lt lL3)) (Heap.get?_push_size _ rfl), rfl, rfl, rfl⟩
    · have := k5 _ _ (Nat.ne_of_gt lL) hit3
      simpa using this
structure CInv (P : Params) (w : World) (A : Around) (mg mb : Str → Option Value) (bm : Addr) (ob : Obj) (L R C I ac gc : Addr) (l tp b : Int) (n i : Nat) (s : Shared) : Prop where
  F : WF P mg mb bm ob s.heap
  ns : ∃ m, s.heap.Ns L m ∧ m (Str.ofString "rows") = some (.ref R)
  hR : ∃ t u v, IsRange s.heap R tp (b + 1) 1 t u v
  ck : ∃ v, s.heap.IsCell (L + 1) v
  tab : J80 s.heap
  lz : LazyReady PySem.Challenge.rw_ez0208_01.row.prog w A l n C I (fun j y => ∃ t, y = .str (upS (l + (j : Int))) t) (fun h => (Mine.hd.heap_39 P).In h ∧ TopRead Mine.hd.view_39 LO mg mb h) ac gc i s
theorem CInv.ex {P : Params} {w : World} {A : Around} {mg mb : Str → Option Value} {bm : Addr} {ob : Obj} {L R C I ac gc : Addr} {l tp b : Int} {n i : Nat} {s s' : Shared} {W : List Addr} (x : CInv P w A mg mb bm ob L R C I ac gc l tp b n i s) (hW : Far bm W) (e : Ex W s.heap s'.heap) (eg : s'.gens[gc]? = s.gens[gc]?) (n1 : L ∉ W) (n2 : R ∉ W) (n3 : L + 1 ∉ W) (n4 : 80 ∉ W) (n5 : C ∉ W) (n6 : I ∉ W) (n7 : ac ∉ W) : CInv P w A mg mb bm ob L R C I ac gc l tp b n i s' where
  F := x.F.ex hW e
  ns := let ⟨m, a, b⟩ := x.ns; ⟨m, a.at' fun o q => e _ o n1 q, b⟩
  hR := let ⟨t, u, v, h⟩ := x.hR; ⟨t, u, v, e _ _ n2 h⟩
  ck := let ⟨v, o, a, b⟩ := x.ck; ⟨v, o, e _ _ n3 a, b⟩
  tab := by
    obtain ⟨ps, a, b⟩ := x.tab
    have k : ∀ c o, c = 84 ∨ c = 80 → s.heap.get? c = some o → s'.heap.get? c = some o := fun c o hc q => by
      rcases hc with rfl | rfl
      · exact e _ _ (hW.no (by decide) (by decide) (by decide)) q
      · exact e _ _ n4 q
    exact ⟨ps, isCode_at a k, tableAt_at b k⟩
  lz := lazy_move x.lz (fun b o hb q => e b o (by rcases hb with rfl | rfl | rfl <;> assumption) q) eg
end Mine
end
section
open PySem PySem.W PySem.Calls PySem.Spec PyProof.Rows
set_option Elab.async false
set_option maxRecDepth 100000
set_option maxHeartbeats 1000000
set_option linter.unusedVariables false
set_option linter.unusedSimpArgs false
namespace Mine
theorem cols_for : ∃ px pi yp ep fp, colsBody.drop 3 = [.For (.Name (Str.ofString "col") px) (.Name (Str.ofString "cols") pi) [.Expr (.Yield (some (theE (yieldE colsBody))) yp) ep] [] fp] := ⟨_, _, _, _, _, rfl⟩
theorem cols_k1 {L : Addr} : (colsEnv L).scope.kind = .function := rfl
theorem cols_k2 {L : Addr} : (colsEnv L).kindOf (Str.ofString "cols") = some .local := rfl
theorem cols_k3 {L : Addr} : (colsEnv L).kindOf (Str.ofString "col") = some .cell := rfl
theorem cols_k4 {L : Addr} : (colsEnv L).cells.lookup (Str.ofString "col") = some (L + 1) := rfl
theorem cols_k5 {L : Addr} : (colsEnv L).scope.isCoroutine = false := rfl
theorem cols_k6 {L : Addr} : interactive (colsEnv L) = false := rfl
theorem ns_priv {h : Heap} {C : Addr} {m : Str → Option Value} {o : Obj} (n : h.Ns C m) (e : h.get? C = some o) : Priv o := by
  obtain ⟨o', _, _, e', d, _⟩ := n
  rw [e] at e'; cases e'
  intro it n z
  rw [d] at z; cases z
section
variable {w : World} {mg mb : Str → Option Value} {bm : Addr} {ob : Obj} {A : Around} {B g N nc nr : Nat} {wc : List Addr} {L R C I ac gc : Addr} {l tp b : Int}
theorem cols_loop (hh : A.handled = none) (hd : A.depth + 95 < recursionLimit) (hu : A.units + 920 < cLine) (hnr : nr = (b + 1 - tp).toNat) (hup : ∀ j : Nat, j < N → (upS (l + (j : Int))).length ≤ 3) (hbm : bm ≠ 80) (hb1 : 1 ≤ tp) (q3 : tp ≤ b) (q4 : b < tp + 4) (hb4 : b ≤ 15)
    (hW : Far bm wc) (n1 : L ∉ wc) (n2 : R ∉ wc) (n3 : L + 1 ∉ wc) (n4 : 80 ∉ wc) (n5 : C ∉ wc) (n6 : I ∉ wc) (n7 : ac ∉ wc) (hBC : @LE.le Nat _ B C) (hBI : @LE.le Nat _ B I) (hL133 : @LE.le Nat _ 133 L) (hC133 : @LE.le Nat _ 133 C) (hI133 : @LE.le Nat _ 133 I)
    (d1 : L ∉ [C, I]) (d2 : R ∉ [C, I]) (d3 : L + 1 ∉ [C, I]) (d4 : ac ∉ [C, I]) (d5 : C ≠ I) (f1 : Far bm [C, I]) (f2 : Far bm [L + 1, 80]) (x1 : L ∉ [L + 1, 80]) (x2 : R ∉ [L + 1, 80]) (x5 : C ∉ [L + 1, 80]) (x6 : I ∉ [L + 1, 80]) (x7 : ac ∉ [L + 1, 80]) (hgc : g + 1 ≤ gc)
    {px yp ep p : Pos} {kk : Result → Sem Fin} {ll : List Value} (hk : ∀ s₀ s c', GRel J80 B [L, L + 1, 80] g s₀ s → PySem.Seg (model PySem.Challenge.rw_ez0208_01.row.prog w) A (RR J80 B [L, L + 1, 80] g) (YY J80 B [L, L + 1, 80] wc g N (fun i => Tup1 B (colT l tp nr i))) 0 s₀ c' (kk (.ok .next)) [] s) (A' : Around) (hA' : A.over (.forLoop (.Name (Str.ofString "col") px) (.ref ac) [.Expr (.Yield (some (theE (yieldE colsBody))) yp) ep] [] (colsEnv L)) [.ret kk none false ll (.func colsBody (colsEnv L)) p []] = A') :
    ∀ (j i : Nat) (s₀ s : Shared), i + j = N → CInv w.params w A' mg mb bm ob L R C I ac gc l tp b N i s → GRel J80 B [L, L + 1, 80] g s₀ s → g + 1 ≤ s.gens.size →
      PySem.Seg (model PySem.Challenge.rw_ez0208_01.row.prog w) A (RR J80 B [L, L + 1, 80] g) (YY J80 B [L, L + 1, 80] wc g N (fun i => Tup1 B (colT l tp nr i))) j s₀
        (.forLoop (.Name (Str.ofString "col") px) (.ref ac) [.Expr (.Yield (some (theE (yieldE colsBody))) yp) ep] [] (colsEnv L)) ((model PySem.Challenge.rw_ez0208_01.row.prog w).den (.forLoop (.Name (Str.ofString "col") px) (.ref ac) [.Expr (.Yield (some (theE (yieldE colsBody))) yp) ep] [] (colsEnv L))) [.ret kk none false ll (.func colsBody (colsEnv L)) p []] s := by
  obtain ⟨d, fr, gd, u, ea, ed, eu⟩ := over_for (A := A) (env := colsEnv L) (body := colsBody) (body' := [.Expr (.Yield (some (theE (yieldE colsBody))) yp) ep]) (orelse := []) (target := .Name (Str.ofString "col") px) (it := .ref ac) (k := kk) (p := p) (l := ll) hh
  rw [hA'] at ea
  subst ea
  have kw : ∀ h h', ((Mine.hd.heap_39 w.params).In h ∧ TopRead Mine.hd.view_39 LO mg mb h) → Ex [C, I] h h' → ((Mine.hd.heap_39 w.params).In h' ∧ TopRead Mine.hd.view_39 LO mg mb h') := fun h h' q e => ⟨in_ex q.1 f1 e, read_ex q.2 f1 e⟩
  have nCI : ∀ c : Nat, c < 133 → (c : Addr) ∉ [C, I] := fun c hc hm => by
    simp only [List.mem_cons, List.not_mem_nil, or_false] at hm
    rcases hm with rfl | rfl
    · exact Nat.lt_irrefl _ (Nat.lt_of_lt_of_le hc hC133)
    · exact Nat.lt_irrefl _ (Nat.lt_of_lt_of_le hc hI133)
  have jCI : ∀ {h h' : Heap}, J80 h → Ex [C, I] h h' → J80 h' := fun hj e => by
    obtain ⟨ps, t1, t2⟩ := hj
    have k : ∀ c o, c = 84 ∨ c = 80 → _ → _ := fun c o hc q => e c o (nCI c (by rcases hc with rfl | rfl <;> decide)) q
    exact ⟨ps, isCode_at t1 k, tableAt_at t2 k⟩
  have exCI : ∀ {s : Shared} {i : Nat} {A'} {h' : Heap}, CInv w.params w A' mg mb bm ob L R C I ac gc l tp b N i s → Ex [C, I] s.heap h' → ExP B [L, L + 1, 80] s.heap h' := fun {s i A' h'} x e b' o hb hp q => by
    refine e b' o (fun hm => ?_) q
    simp only [List.mem_cons, List.not_mem_nil, or_false] at hm
    obtain ⟨_, ⟨⟨m, hn⟩, hit⟩, _⟩ := x.lz
    rcases hm with rfl | rfl
    · rcases hp with hp | hp
      · exact Nat.lt_irrefl _ (Nat.lt_of_lt_of_le hp hBC)
      · exact hp (ns_priv hn q)
    · rcases hp with hp | hp
      · exact Nat.lt_irrefl _ (Nat.lt_of_lt_of_le hp hBI)
      · rw [hit] at q; cases q; exact hp (fun _ _ z => nomatch z)
  intro j
  induction j with
  | zero =>
    intro i s₀ s hi x G hgs
    have e : i = N := by omega
    subst e
    refine seg_forEnd ?_
    rw [hA']
    refine wpAny_mono (lazy_end kw rfl (by dsimp only; omega) x.lz ⟨x.F.X, x.F.T⟩ x.F.T.nolimit) (fun r s₁ q => ?_) fun _ _ q => q
    obtain ⟨rfl, h', tk', gs', rfl, e', go⟩ := q
    refine ⟨rfl, fun c' => seg_leaf (.ok .next) (hk _ _ _ (G.trans ⟨h', tk', gs', rfl, exCI x e', go.gg hgc, fun hj => jCI hj e'⟩))⟩
  | succ j ih =>
    intro i s₀ s hi x G hgs
    have hlt : i < N := by omega
    refine seg_forYield rfl rfl cols_k5 cols_k6 ?_
    rw [hA']
    refine wpAny_mono (lazy_item rfl (by dsimp only; omega) x.lz ⟨x.F.X, x.F.T⟩ x.F.T.nolimit hlt d4) (fun r s₁ q => ?_) fun _ _ q => q
    obtain ⟨v, rfl, ⟨t, rfl⟩, lz1, h1, tk1, g1, rfl, e1, go⟩ := q
    refine ⟨_, rfl, ?_⟩
    have F1 := x.F.ex f1 e1
    obtain ⟨v0, o0, a0, b0⟩ := x.ck
    have hc1 : h1.IsCell (L + 1) v0 := ⟨o0, e1 _ _ d3 a0, b0⟩
    refine wpAny_assign_Name (wpAny_storeName_cell cols_k1 cols_k3 cols_k4 hc1 fun h2 c2 s2 => ?_)
    have k2 : ∀ b o, b ≠ L + 1 → h1.get? b = some o → h2.get? b = some o := fun b o hb e => s2.extBut b o hb e
    have ex2 : Ex [L + 1, 80] h1 h2 := fun b o hb e => k2 b o (fun q => hb (by rw [q]; simp)) e
    have F2 := F1.ex f2 ex2
    obtain ⟨m, ns, em⟩ := x.ns
    have ns2 : h2.Ns L m := ns.at' fun o e => ex2 _ o x1 (e1 _ o d1 e)
    obtain ⟨tr, ur, vr, hR⟩ := x.hR
    have hR2 : IsRange h2 R tp (b + 1) 1 tr ur vr := ex2 _ _ x2 (e1 _ _ d2 hR)
    obtain ⟨ps, hok, htb⟩ := jCI x.tab e1
    have kt : ∀ c o, c = 84 ∨ c = 80 → h1.get? c = some o → h2.get? c = some o := fun c o hc q => k2 c o (fun z => by
      rw [z] at hc
      have h1 : @LE.le Nat _ 133 (L + 1) := Nat.le_succ_of_le hL133
      rcases hc with hc | hc <;> (rw [hc] at h1; exact absurd h1 (by decide))) q
    have hok2 := isCode_at hok kt
    have htb2 := tableAt_at htb kt
    refine cols_elt (m := m) (R := R) (b := b) (tp := tp) F2.X F2.T F2 hbm (by omega) (by omega) ns2 em hR2 (hup i hlt) hb1 q3 q4 hb4 c2 hok2 htb2 fun h3 tk3 gs T vs more x3 ok3 tb3 gn lT g3 sv => ?_
    dsimp only at x3 gn lT
    have it2 := ex2 _ _ x6 lz1.2.1.2
    have hBT : @LE.le Nat _ B T := Nat.le_of_lt (Nat.lt_of_le_of_lt hBI (lT _ _ it2))
    intro kap hkap
    have e0 : N - 1 - j = i := by omega
    have ex3 : Ex [L + 1, 80] h2 h3 := fun b o hb e => x3 b o (fun q => hb (by rw [q]; simp)) e
    have ex13 : Ex [L + 1, 80] h1 h3 := ex_trans ex2 ex3
    have G3 : GRel J80 B [L, L + 1, 80] g s { s with heap := h3, toks := tk3, gens := gs } := by
      refine ⟨h3, tk3, gs, rfl, fun b' o hb hp e => ex13 b' o (fun hm => hb (List.mem_cons_of_mem _ hm)) (exCI x e1 b' o hb hp e), (go.gg hgc).trans (gn.gg ?_), fun _ => ⟨_, ok3, tb3⟩⟩
      rw [go.1]; exact hgs
    refine ⟨?_, G.trans G3, fun s'' hA => hkap s'' (ih (i + 1) s'' s'' (by omega) ?_ (GRel.refl _ _ _ _ _) ?_)⟩
    · rw [e0]
      refine ⟨T, vs, rfl, hBT, g3, ?_⟩
      unfold colT cellT
      rw [hnr]; exact sv
    · refine CInv.ex (s := { s with heap := h3, toks := tk3, gens := gs }) ?_ hW hA.1 ?_ n1 n2 n3 n4 n5 n6 n7
      · have glt : gc < g1.size := by
          obtain ⟨_, _, gx, hgx, _⟩ := lz1
          rcases Nat.lt_or_ge gc g1.size with q | q
          · exact q
          · exact absurd (hgx.symm.trans (Array.getElem?_eq_none q)) (by simp)
        have c75 : (80 : Nat) ≠ L + 1 := fun q => by
          have h1 : @LE.le Nat _ 133 (L + 1) := Nat.le_succ_of_le hL133
          rw [← q] at h1; exact absurd h1 (by decide)
        refine ⟨F2.ex f2 ex3, ⟨m, ns2.at' fun o e => ex3 _ o x1 e, em⟩, ⟨tr, ur, vr, ex3 _ _ x2 hR2⟩, ⟨_, let ⟨o, a, b⟩ := c2; ⟨o, x3 _ o (Ne.symm c75) a, b⟩⟩, ⟨_, ok3, tb3⟩, lazy_move lz1 (fun b' o hb e => ex13 b' o (by rcases hb with rfl | rfl | rfl <;> assumption) e) (gn.1 gc glt)⟩
      · exact hA.2.2.2 gc (Nat.ne_of_gt hgc)
    · rw [hA.2.2.1]
      exact Nat.le_trans (by rw [go.1]; exact hgs) gn.2.1
end
end Mine
end
section
open PySem PySem.W PySem.Calls PySem.Spec PyProof.Rows
set_option Elab.async false
set_option maxRecDepth 100000
set_option maxHeartbeats 1000000
set_option linter.unusedVariables false
set_option linter.unusedSimpArgs false
namespace Mine
theorem lz_k1 {L C : Addr} {code : Value} : (lazyEnv L C code).kindOf (Str.ofString "col") = some .local := rfl
theorem lz_k2 {L C : Addr} {code : Value} : (lazyEnv L C code).scope.kind = .function := rfl
theorem lz_k3 {L C : Addr} {code : Value} : (lazyEnv L C code).scope.isCoroutine = false := rfl
section
variable {w : World} {mg mb : Str → Option Value} {bm : Addr} {ob : Obj} {A : Around} {B g N nr : Nat} {wc : List Addr} {L : Addr} {l tp : Int}
theorem cols_seg {s₀ : Shared} {m₀ : Str → Option Value} {txt y : Str} {tx : Tok} {r b : Int} {q : Nat} (hh : A.handled = none) (hd : A.depth + 99 < recursionLimit) (hu : A.units + 950 < cLine)
    (F : WF w.params mg mb bm ob s₀.heap) (ns : s₀.heap.Ns L m₀) (em : m₀ (Str.ofString "range_string") = some (.str txt tx)) (ck : ∃ v, s₀.heap.IsCell (L + 1) v) (tab : J80 s₀.heap)
    (K : Told txt y (some l) (some tp) (some r) (some b) q) (hl3 : l = 1 ∨ l = 26 ∨ l = 701) (q1 : l ≤ r) (q2 : r < l + 4) (hb1 : 1 ≤ tp) (q3 : tp ≤ b) (q4 : b < tp + 4) (hb4 : b ≤ 15)
    (hW : Far bm wc) (n1 : L ∉ wc) (n3 : L + 1 ∉ wc) (n4 : 80 ∉ wc) (hwc : ∀ c, c ∈ wc → ∃ o, s₀.heap.get? c = some o) (live : ∃ z o, @LE.le Nat _ B (z + 1) ∧ s₀.heap.get? z = some o) (hL133 : @LE.le Nat _ 133 L) (far : Far bm [L, L + 1, 80]) (hgs : g + 1 ≤ s₀.gens.size)
    (hnr : nr = (b + 1 - tp).toNat) (hN : N = (r + 1 - l).toNat) :
    PySem.Seg (model PySem.Challenge.rw_ez0208_01.row.prog w) A (RR J80 B [L, L + 1, 80] g) (YY J80 B [L, L + 1, 80] wc g N (fun i => Tup1 B (colT l tp nr i))) N s₀
      (.func colsBody (colsEnv L)) ((model PySem.Challenge.rw_ez0208_01.row.prog w).den (.func colsBody (colsEnv L))) [] s₀ := by
  obtain ⟨d, fr, gd, u, ea, ed, eu⟩ := over_func (A := A) (env := colsEnv L) (body := colsBody) hh
  have fL : Far bm [L] := fun b hb => far b (by rw [List.mem_singleton.mp hb]; exact List.mem_cons_self ..)
  have fL80 : Far bm [L, 80] := fun b hb => far b (by simp only [List.mem_cons, List.not_mem_nil, or_false] at hb ⊢; rcases hb with rfl | rfl <;> simp)
  have hbm : bm ≠ 80 := (far 80 (by simp)).1.symm
  have nlow : ∀ c : Nat, c < 133 → (c : Addr) ∉ [L] := fun c hc hm => by
    have := List.mem_singleton.mp hm
    subst this
    exact Nat.lt_irrefl _ (Nat.lt_of_lt_of_le hc hL133)
  have jL : ∀ {h h' : Heap}, J80 h → Ex [L] h h' → J80 h' := fun hj e => by
    obtain ⟨ps, t1, t2⟩ := hj
    have k : ∀ c o, c = 84 ∨ c = 80 → _ → _ := fun c o hc q => e c o (nlow c (by rcases hc with rfl | rfl <;> decide)) q
    exact ⟨ps, isCode_at t1 k, tableAt_at t2 k⟩
  refine seg_func ?_
  show PySem.Seg _ _ _ _ _ _ _ ((execs (List.drop 0 colsBody) (colsEnv L)).wrap _ _ _ _) [] s₀
  refine seg_pre 0 ?_
  rw [ea]
  refine cols_s0 (m := m₀) F.X F.T (by omega) (by omega) ns em K fun h1 tk1 m1 t1 t2 t3 t4 x1 ns1 e1 e2 e3 e4 => ⟨rfl, ?_⟩
  have F1 := F.ex fL x1
  refine seg_pre 1 ?_
  rw [ea]
  refine cols_s1 (m := m1) F1.X F1.T (by omega) (by omega) ns1 e2 e4 fun h2 tk2 R tr ur vr x2 ns2 hRf hr => ⟨rfl, ?_⟩
  have F2 := F1.ex fL x2
  dsimp only at x1 x2 hRf
  have x12 : Ex [L] s₀.heap h2 := ex_trans x1 x2
  have j2 := jL tab x12
  refine seg_pre 2 ?_
  rw [ea]
  refine cols_s2 (bm := bm) (ob := ob) (m := fun y => if y = Str.ofString "rows" then some (.ref R) else m1 y) F2.X F2.T F2 hbm (by omega) (by omega) ns2 hL133 ((if_neg (by decide)).trans e1) ((if_neg (by decide)).trans e3) hl3 q1 q2 j2 fun h3 tk3 C I ac px iter pos code x3 j3 ns3 lt3 hCI haC haI hgen lI => ⟨rfl, ?_⟩
  have F3 := F2.ex fL80 x3
  dsimp only at x3 lt3 hgen
  have hnew : ∀ b o, s₀.heap.get? b = some o → @LT.lt Nat _ b C ∧ @LT.lt Nat _ b I ∧ @LT.lt Nat _ b ac := fun b o e => by
    by_cases hb : b ∈ [L]
    · rw [List.mem_singleton.mp hb]
      obtain ⟨oL, _, _, eL, _⟩ := ns2
      exact lt3 L oL eL
    · exact lt3 b o (x12 b o hb e)
  obtain ⟨oL, _, _, eL, _⟩ := id ns
  have lLn := hnew _ _ eL
  obtain ⟨vK, oK, eK, dK⟩ := id ck
  have lKn := hnew _ _ eK
  have lRn := lt3 _ _ hr
  have lbn := hnew _ _ F.obj
  have hC133 : @LE.le Nat _ 133 C := Nat.le_of_lt (Nat.lt_of_le_of_lt hL133 lLn.1)
  have hI133 : @LE.le Nat _ 133 I := Nat.le_of_lt (Nat.lt_of_le_of_lt hL133 lLn.2.1)
  have ha133 : @LE.le Nat _ 133 ac := Nat.le_of_lt (Nat.lt_of_le_of_lt hL133 lLn.2.2)
  have hBs : @LE.le Nat _ B C ∧ @LE.le Nat _ B I := by
    obtain ⟨z, o, hz, hzo⟩ := live
    have := hnew z o hzo
    exact ⟨Nat.le_trans hz this.1, Nat.le_trans hz this.2.1⟩
  have hR80 : R ≠ 80 := fun q => by
    obtain ⟨ps, _, t⟩ := j2
    rw [q] at hr
    have := t.2.symm.trans hr
    cases this
  have hRL : R ≠ L := range_ne ns2 hr
  have hRK : R ≠ L + 1 := fun q => by
    have e' : h2.get? (L + 1) = some oK := x12 (L + 1) oK (fun hm => absurd (List.mem_singleton.mp hm) (Nat.succ_ne_self L)) eK
    rw [← q] at e'
    have := hr.symm.trans e'
    cases this; cases dK
  have hr3 : IsRange h3 R tp (b + 1) 1 tr ur vr := x3 _ _ (fun hm => by
    simp only [List.mem_cons, List.not_mem_nil, or_false] at hm
    rcases hm with q | q
    · exact hRL q
    · exact hR80 q) hr
  have ck3 : ∃ v, h3.IsCell (L + 1) v := ⟨vK, oK, x3 _ _ (fun hm => by
    simp only [List.mem_cons, List.not_mem_nil, or_false] at hm
    rcases hm with q | q
    · exact Nat.succ_ne_self L q
    · have h1 : @LE.le Nat _ 133 (L + 1) := Nat.le_succ_of_le hL133
      rw [q] at h1; exact absurd h1 (by decide)) (x12 _ _ (fun hm => absurd (List.mem_singleton.mp hm) (Nat.succ_ne_self L)) eK), dK⟩
  obtain ⟨px', pi, yp, ep, fp, e5⟩ := cols_for
  rw [e5]
  refine seg_execs_cons (seg_For (fun _ => rfl) ?_)
  rw [ea]
  refine nm_local (env := colsEnv L) ns3 (if_pos rfl) ?_ cols_k1 cols_k2 (by decide)
  refine wpAny_pyIter_gen hgen ?_
  intro p
  dsimp only
  have hwcl : ∀ c, c ∈ wc → @LT.lt Nat _ c C ∧ @LT.lt Nat _ c I ∧ @LT.lt Nat _ c ac := fun c hc => by
    obtain ⟨o, ho⟩ := hwc c hc
    exact hnew c o ho
  have G3 : GRel J80 B [L, L + 1, 80] g s₀ { s₀ with heap := h3, toks := tk3, gens := s₀.gens.push (.fresh (.compStart (.GeneratorExp (theE (geltE lazyE)) [⟨.Name (Str.ofString "col") px, iter, [], 0⟩] (gscE lazyE) pos) 0 (.ref I) .none (lazyEnv L C code))) } := by
    refine ⟨_, _, _, rfl, fun b o hb hp e => x3 b o (fun hm => hb ?_) (x12 b o (fun hm => hb ?_) e), ⟨fun k hk => ?_, by simp, fun h k st hk e => ?_⟩, fun _ => j3⟩
    · simp only [List.mem_cons, List.not_mem_nil, or_false] at hm ⊢
      rcases hm with rfl | rfl <;> simp
    · rw [List.mem_singleton.mp hm]; simp
    · rw [Array.getElem?_push, if_neg (Nat.ne_of_lt (Nat.lt_of_lt_of_le hk hgs))]
    · rw [Array.getElem?_push] at e
      split at e
      · cases e; rfl
      · exact h k st hk e
  have notCI : ∀ b : Addr, @LT.lt Nat _ b C → @LT.lt Nat _ b I → b ∉ [C, I] := fun b h1 h2 hm => by
    simp only [List.mem_cons, List.not_mem_nil, or_false] at hm
    rcases hm with q | q
    · exact Nat.ne_of_lt h1 q
    · exact Nat.ne_of_lt h2 q
  have notK : ∀ b : Addr, b ≠ L + 1 → b ≠ 80 → b ∉ [L + 1, 80] := fun b h1 h2 hm => by
    simp only [List.mem_cons, List.not_mem_nil, or_false] at hm
    rcases hm with q | q
    · exact h1 q
    · exact h2 q
  have n80 : ∀ b : Addr, @LE.le Nat _ 133 b → b ≠ 80 := fun b h1 q => by rw [q] at h1; exact absurd h1 (by decide)
  obtain ⟨d', fr', gd', u', ea', ed', eu'⟩ := over_for (A := A) (env := colsEnv L) (body := colsBody) (body' := [.Expr (.Yield (some (theE (yieldE colsBody))) yp) ep]) (orelse := []) (target := .Name (Str.ofString "col") px') (it := .ref ac) (k := _) (p := p) (l := id []) hh
  refine cols_loop (mg := mg) (mb := mb) (ob := ob) (R := R) (C := C) (I := I) (ac := ac) (gc := s₀.gens.size) (b := b) (nr := nr) hh (by omega) (by omega) hnr (fun j hj => upS_len (isC_of hl3 (by omega) (by omega))) hbm hb1 q3 q4 hb4 hW n1 ?r1 n3 n4 (fun hm => Nat.lt_irrefl _ (hwcl _ hm).1) (fun hm => Nat.lt_irrefl _ (hwcl _ hm).2.1) (fun hm => Nat.lt_irrefl _ (hwcl _ hm).2.2) hBs.1 hBs.2 hL133 hC133 hI133
    (notCI L lLn.1 lLn.2.1) (notCI R lRn.1 lRn.2.1) (notCI _ lKn.1 lKn.2.1) ?r2 hCI ?r3 ?r4 (notK L (Nat.succ_ne_self L).symm (n80 L hL133)) (notK R hRK hR80) (notK C (Nat.ne_of_gt lKn.1) (n80 C hC133)) (notK I (Nat.ne_of_gt lKn.2.1) (n80 I hI133)) (notK ac (Nat.ne_of_gt lKn.2.2) (n80 ac ha133)) hgs (fun s₁ s₂ c' hG => ?r5) _ ea' N 0 s₀ _ (by omega) ?r6 G3 ?r7
  case r1 =>
    intro hm
    obtain ⟨o, ho⟩ := hwc R hm
    by_cases hb : R ∈ [L]
    · exact hRL (List.mem_singleton.mp hb)
    · exact hRf R o (x1 R o hb ho) rfl
  case r2 =>
    intro hm
    simp only [List.mem_cons, List.not_mem_nil, or_false] at hm
    rcases hm with q | q
    · exact haC q
    · exact haI q
  case r3 =>
    intro c hc
    simp only [List.mem_cons, List.not_mem_nil, or_false] at hc
    rcases hc with rfl | rfl
    · exact ⟨Nat.ne_of_gt lbn.1, .inl hC133⟩
    · exact ⟨Nat.ne_of_gt lbn.2.1, .inl hI133⟩
  case r4 => exact fun c hc => far c (List.mem_cons_of_mem _ hc)
  case r5 => exact seg_end (.ok (.ret .none)) ⟨rfl, rfl, hG⟩
  case r7 =>
    show g + 1 ≤ (Array.push _ _).size
    rw [Array.size_push]; omega
  case r6 =>
    refine ⟨F3, ⟨_, ns3, (if_neg (by decide)).trans (if_pos rfl)⟩, ⟨tr, ur, vr, hr3⟩, ck3, j3, ?_⟩
    refine lazy_fresh (elt := theE (geltE lazyE)) (iter := iter) (px := px) (scope := gscE lazyE) (pos := pos) (cenv := lazyEnv L C code) rfl rfl lz_k1 (by rw [lz_k2]; rfl) lz_k3 hCI (fun h h' q e => ?_) (fun A'' i t s₂ m₂ a1 a2 a3 a4 a5 a6 a7 => ?_) hgen (by rw [hN]; exact lI) ?_
    · have f1 : Far bm [C, I] := by
        intro c hc
        simp only [List.mem_cons, List.not_mem_nil, or_false] at hc
        rcases hc with rfl | rfl
        · exact ⟨Nat.ne_of_gt lbn.1, .inl hC133⟩
        · exact ⟨Nat.ne_of_gt lbn.2.1, .inl hI133⟩
      exact ⟨in_ex q.1 f1 e, read_ex q.2 f1 e⟩
    · rw [around_eta A'' a1]
      dsimp only at a2 a3
      exact wpAny_mono (lazy_elt a7.1 a7.2 (by omega) (by omega) a5 a6 (isC_of hl3 (by omega) (by omega))) (fun y s₃ q => q) fun _ _ q => q
    · exact Array.getElem?_push_size ..
end
end Mine
end
section
open PySem PySem.W PySem.Calls PySem.Spec PyProof.Rows
set_option Elab.async false
set_option maxRecDepth 100000
set_option maxHeartbeats 1000000
set_option linter.unusedVariables false
set_option linter.unusedSimpArgs false
namespace Mine
theorem fillK26 : PySem.Challenge.rw_ez0208_01 = PySem.Challenge.rw_ez0208_01 → (∀ P, Mine.hd.heap_39 P = Mine.hd.heap_39 P) := by k_fill; intros; rfl
theorem call_cols : ∀ {w : World} {mg mb : Str → Option Value} {d u : Nat} {fr : Option (List Env)} {gd : Option (List Code)} {s : Shared} {Q E : Value → Shared → Prop} {txt : Str} {tx : Tok}
    (X : (Mine.hd.heap_39 w.params).In s.heap) (T : TopRead Mine.hd.view_39 LO mg mb s.heap) (hd : d + 90 < recursionLimit)
    (ret : ∀ h' tk L a m, Ext s.heap h' → (∀ b o, s.heap.get? b = some o → @LT.lt Nat _ b L) → @LE.le Nat _ s.heap.objs.size L → h'.Ns L m → m (Str.ofString "range_string") = some (.str txt tx) → h'.IsCell (L + 1) none → h'.IsGen a s.gens.size → Q (.ref a) { s with heap := h', toks := tk, gens := s.gens.push (.fresh (.func colsBody (colsEnv L))) }),
    wpAny (model PySem.Challenge.rw_ez0208_01.row.prog w) ⟨none, d, fr, gd, u⟩ (call (.ref 85) [.str txt tx] []) Q E s := by
  k_fill
  intro w mg mb d u fr gd s Q E txt tx X T hd ret
  have eS : colsScope = colsScope := rfl
  conv at eS => rhs; whnf
  have eB : colsBody = colsBody := rfl
  conv at eB => rhs; whnf
  unfold colsEnv at ret
  rw [eS, eB] at ret
  refine' enterGen (args := ⟨[.str txt tx], []⟩) (binds := [(Str.ofString "range_string", .str txt tx)]) X T ?k1 ?k2 ?k3 ?k4 ?k5 ?_ ?c1 ?c2 ?c3
  case k1 => k_is
  case k2 => k_is
  case k3 => (dsimp only; omega)
  case k4 => exact BindsTo.of_eq rfl
  case c1 => rfl
  case c2 => rfl
  case c3 => rfl
  case k5 => exact fun x hx => by cases hx with | head => exact .inl rfl | tail _ h => cases h
  intro h₁ tk nm qn x
  refine ret _ _ _ _ _ (fun b o e => Heap.get?_push_of_some _ (x.toInCall.keep b o e)) (fun b o e => Heap.lt_size e) (Nat.le_refl _) (x.toInCall.ns.push _) ?_ ?_ ⟨_, _, _, Heap.get?_push_size _ rfl, rfl, rfl, rfl⟩
  · rfl
  · have := x.cell (Str.ofString "col") (s.heap.objs.size + 1) (by rfl)
    exact this.keeps fun b o e => Heap.get?_push_of_some _ e
end Mine
end
section
local macro_rules | `(tactic| walk_at "mine pad 0") => `(tactic| skip)
local macro_rules | `(tactic| walk_at "mine pad 1") => `(tactic| skip)
local macro_rules | `(tactic| walk_at "mine pad 2") => `(tactic| skip)
local macro_rules | `(tactic| walk_at "mine pad 3") => `(tactic| skip)
local macro_rules | `(tactic| walk_at "mine pad 4") => `(tactic| skip)
local macro_rules | `(tactic| walk_at "mine pad 5") => `(tactic| skip)
local macro_rules | `(tactic| walk_at "mine pad 6") => `(tactic| skip)
local macro_rules | `(tactic| walk_at "mine pad 7") => `(tactic| skip)
local macro_rules | `(tactic| walk_at "mine pad 8") => `(tactic| skip)
local macro_rules | `(tactic| walk_at "mine pad 9") => `(tactic| skip)
local macro_rules | `(tactic| walk_at "mine pad 10") => `(tactic| skip)
local macro_rules | `(tactic| walk_at "mine pad 11") => `(tactic| skip)
local macro_rules | `(tactic| walk_at "mine pad 12") => `(tactic| skip)
local macro_rules | `(tactic| walk_at "mine pad 13") => `(tactic| skip)
open PySem PySem.W PySem.Calls PySem.Spec PyProof.Rows
set_option Elab.async false
set_option maxRecDepth 100000
set_option maxHeartbeats 1000000
set_option linter.unusedVariables false
set_option linter.unusedSimpArgs false
namespace Mine
theorem fillK27 : PySem.Challenge.rw_ez0208_01 = PySem.Challenge.rw_ez0208_01 → (∀ P, Mine.hd.heap_39 P = Mine.hd.heap_39 P) := by k_fill; intros; rfl
local macro_rules | `(tactic| walk_at "eval Name") => `(tactic| (k_dflt (first
  | (name_kind "local"; refine nm_hasLC (by with_reducible assumption) ?_)
  | (name_kind "local"; refine nm_localE (by with_reducible assumption) (by with_reducible assumption) ?_)
  | (name_kind "globalImplicit"; refine nm_glob (by with_reducible assumption) (by with_reducible assumption) (by k_is) ?_)
  | (name_kind "globalImplicit"; refine nm_built (by with_reducible assumption) (by with_reducible assumption) (by k_is) (by boot_by_name) (by decide) ?_))))
local macro_rules | `(tactic| walk_at "call type:list") => `(tactic| (k_dflt (refine list_tup (by with_reducible assumption) (by with_reducible assumption) ?_); intro h' n' e' g'))
/-- list(one) in the comprehension, one a tuple of texts -/
theorem el_list1 : ∀ {w : World} {mg mb : Str → Option Value} {d u : Nat} {fr : Option (List Env)} {gd : Option (List Code)} {s : Shared} {L fa C T : Addr} {cd : Value} {vs : List Value}
    (X : (Mine.hd.heap_39 w.params).In s.heap) (T' : TopRead Mine.hd.view_39 LO mg mb s.heap) (hd : d + 100 < recursionLimit) (hu : u + 1000 < cLine) (ho : HasL C (Str.ofString "one") (.ref T) s.heap) (hT : s.heap.get? T = some (tupObj vs)) (hz : vs.length ≤ 4),
    wpAny (model PySem.Challenge.rw_ez0208_01.row.prog w) ⟨none, d, fr, gd, u⟩ (eval (theE (eltE (leftE (cmpE 1)))) (compEnvC (scE (leftE (cmpE 1))) [] C (lawEnv L fa cd))) (LstAt s vs) FF s := by
  k_fill
  intro w mg mb d u fr gd s L fa C T cd vs X T' hd hu ho hT hz
  have eS : lawScope = lawScope := rfl
  conv at eS => rhs; whnf
  have eN : scE (leftE (cmpE 1)) = scE (leftE (cmpE 1)) := rfl
  conv at eN => rhs; whnf
  have eI : theE (eltE (leftE (cmpE 1))) = theE (eltE (leftE (cmpE 1))) := rfl
  conv at eI => rhs; whnf
  rw [eI, eN]
  unfold lawEnv
  rw [eS]
  clear eI eN eS
  k_steps
  exact ⟨⟨_, _, rfl, by assumption⟩, _, rfl, by assumption⟩
def Called1 (txt : Str) (tx : Tok) (s : Shared) (xv : Value) (s₁ : Shared) : Prop := ∃ h' tk L a m, s₁ = { s with heap := h', toks := tk, gens := s.gens.push (.fresh (.func colsBody (colsEnv L))) } ∧ xv = .ref a ∧ Ext s.heap h' ∧ @LE.le Nat _ s.heap.objs.size L ∧ h'.Ns L m ∧ m (Str.ofString "range_string") = some (.str txt tx) ∧ h'.IsCell (L + 1) none ∧ h'.IsGen a s.gens.size
local macro_rules | `(tactic| walk_at "call ref") => `(tactic| ((with_reducible show wpAny _ _ (call (Value.ref 85) [Value.str _ _] _) _ _ _); k_dflt (refine call_cols (by with_reducible assumption) (by with_reducible assumption) (by omega) ?_); intro h' tk' L' a' m' e' l1' l2' n' c' k' g'))
theorem cols_it : ∀ {w : World} {mg mb : Str → Option Value} {d u : Nat} {fr : Option (List Env)} {gd : Option (List Code)} {s : Shared} {L fa : Addr} {cd : Value} {m : Str → Option Value} {txt : Str} {tx : Tok}
    (X : (Mine.hd.heap_39 w.params).In s.heap) (T' : TopRead Mine.hd.view_39 LO mg mb s.heap) (hd : d + 100 < recursionLimit) (hu : u + 1000 < cLine) (ns : s.heap.Ns L m) (em : m (Str.ofString "text") = some (.str txt tx)),
    wpAny (model PySem.Challenge.rw_ez0208_01.row.prog w) ⟨none, d, fr, gd, u⟩ (eval (theE (iterE (leftE (cmpE 1)))) (lawEnv L fa cd)) (Called1 txt tx s) FF s := by
  k_fill
  intro w mg mb d u fr gd s L fa cd m txt tx X T' hd hu ns em
  have eS : lawScope = lawScope := rfl
  conv at eS => rhs; whnf
  have eI : theE (iterE (leftE (cmpE 1))) = theE (iterE (leftE (cmpE 1))) := rfl
  conv at eI => rhs; whnf
  rw [eI]
  unfold lawEnv
  rw [eS]
  clear eI eS
  k_steps
  exact ⟨_, _, _, _, _, rfl, rfl, by assumption, by assumption, by assumption, by assumption, by assumption, by assumption⟩
theorem cols_lc : ∃ elt px iter pos, theE (leftE (cmpE 1)) = .ListComp elt [⟨.Name (Str.ofString "one") px, iter, [], 0⟩] (scE (leftE (cmpE 1))) pos ∧ elt = theE (eltE (leftE (cmpE 1))) ∧ iter = theE (iterE (leftE (cmpE 1))) ∧ (∀ env x, foldedSetIterable iter env x = pure x) ∧ (∀ env, closureFor (scE (leftE (cmpE 1))) env = pure []) ∧ (∀ y ∈ (scE (leftE (cmpE 1))).names, y.2 ≠ .cell) ∧ (scE (leftE (cmpE 1))).kind = .function ∧ (∀ y ∈ (scE (leftE (cmpE 1))).names, y.2 = .local → (scE (leftE (cmpE 1))).names.lookup y.1 = some .local) ∧ (scE (leftE (cmpE 1))).names.lookup (Str.ofString "one") = some .local :=
  ⟨_, _, _, _, rfl, rfl, rfl, fun _ _ => by rfl, fun _ => by rfl, by decide +kernel, rfl, by decide +kernel, by rfl⟩
theorem cols_comp {w : World} {mg mb : Str → Option Value} {bm : Addr} {ob : Obj} {d u : Nat} {fr : Option (List Env)} {gd : Option (List Code)} {s : Shared} {Q : Value → Shared → Prop} {L fa : Addr} {cd : Value} {m : Str → Option Value} {txt y : Str} {tx : Tok} {l tp r b : Int} {q : Nat}
    (F : WF w.params mg mb bm ob s.heap) (hd : d + 100 < recursionLimit) (hu : u + 1000 < cLine) (ns : s.heap.Ns L m) (em : m (Str.ofString "text") = some (.str txt tx)) (K : Told txt y (some l) (some tp) (some r) (some b) q)
    (hl3 : l = 1 ∨ l = 26 ∨ l = 701) (q1 : l ≤ r) (q2 : r < l + 4) (hb1 : 1 ≤ tp) (q3 : tp ≤ b) (q4 : b < tp + 4) (hb4 : b ≤ 15) (hbm : bm ≠ 80) (hj : J80 s.heap) (hg : AllBare s.gens) (h133 : @LE.le Nat _ 133 s.heap.objs.size)
    (ret : ∀ h' tk gs D ys, Ex [80] s.heap h' → J80 h' → (∀ b o, s.heap.get? b = some o → @LT.lt Nat _ b D) → h'.get? D = some (LCg.lst ys) → ys.length = (r + 1 - l).toNat → (∀ (j : Nat) y, ys[j]? = some y → Row1 0 (colT l tp (b + 1 - tp).toNat j) y h') → AllBare gs → Q (.ref D) { s with heap := h', toks := tk, gens := gs }) :
    wpAny (model PySem.Challenge.rw_ez0208_01.row.prog w) ⟨none, d, fr, gd, u⟩ (eval (theE (leftE (cmpE 1))) (lawEnv L fa cd)) Q FF s := by
  obtain ⟨elt, px, iter, pos, e1, e2, e3, hfold, hclos, hcell, hkind, hnames, hone⟩ := cols_lc
  rw [e1]
  refine comp_L (hclos _) hcell hkind hnames (wpAny_mono (?_ : wpAny _ _ _ (Called1 txt tx s) _ _) (fun xv s₁ q9 => ?_) fun _ _ q => q) (fun x => hfold _ x)
  · rw [e3]; exact cols_it F.X F.T (by omega) (by omega) ns em
  obtain ⟨h1, tk1, L', a, m1, rfl, rfl, x1, lL', nsL, emL, ckL, hgen⟩ := q9
  refine wpAny_pyIter_gen hgen ?_
  intro h₄ tk₄ x4 hsz4 hD4 hns4
  dsimp only at x4 hsz4 hD4 hns4
  have hgen4 : h₄.IsGen a s.gens.size := hgen.keeps x4
  refine ⟨fun Q' q => wpAny_pyIter_gen hgen4 q, (r + 1 - l).toNat, ?_⟩
  have x14 : Ext s.heap h₄ := fun b o e => x4 b o (x1 b o e)
  have F4 : WF w.params mg mb bm ob h₄ := F.ex (W := []) (fun b hb => by cases hb) (ex_ext x14)
  have nsL4 := nsL.keeps x4
  have ckL4 := ckL.keeps x4
  have lL1 : @LT.lt Nat _ L' h1.objs.size := nsL.lt
  have lK1 : @LT.lt Nat _ (L' + 1) h1.objs.size := let ⟨_, a, _⟩ := ckL; Heap.lt_size a
  have la1 : @LT.lt Nat _ a h1.objs.size := let ⟨_, _, _, a, _⟩ := hgen; Heap.lt_size a
  have up2 : ∀ {b : Nat}, b < h1.objs.size → b < h₄.objs.size := fun hb => by rw [hsz4]; exact Nat.lt_succ_of_lt (Nat.lt_succ_of_lt hb)
  have lD : @LT.lt Nat _ h1.objs.size h₄.objs.size := by rw [hsz4]; exact Nat.lt_succ_of_lt (Nat.lt_succ_self _)
  have lZ : @LT.lt Nat _ (h1.objs.size + 1) h₄.objs.size := by rw [hsz4]; exact Nat.lt_succ_self _
  have low : ∀ b o, s.heap.get? b = some o → @LT.lt Nat _ b L' := fun b o e => Nat.lt_of_lt_of_le (Heap.lt_size e) lL'
  have hcsl : @LT.lt Nat _ cStatics L' := let ⟨_, ⟨o, _, _, e, _⟩, _⟩ := F.T.nolimit; low _ _ e
  have h133L : @LE.le Nat _ 133 L' := Nat.le_trans h133 lL'
  have tabl : ∃ o, s.heap.get? 80 = some o := let ⟨_, _, t⟩ := hj; ⟨_, t.2⟩
  have haL : a ≠ L' := fun e => by
    obtain ⟨o, _, _, g1, _, g2, _⟩ := hgen
    obtain ⟨o', _, _, n1, n2, _⟩ := nsL
    rw [e, n1] at g1; cases g1; rw [n2] at g2; cases g2
  have haK : a ≠ L' + 1 := fun e => by
    obtain ⟨o, _, _, g1, _, g2, _⟩ := hgen
    obtain ⟨o', n1, n2⟩ := ckL
    rw [e, n1] at g1; cases g1; rw [n2] at g2; cases g2
  have haP : a ≠ 80 := fun e => by
    obtain ⟨o, _, _, g1, g2, _, _⟩ := hgen
    obtain ⟨ps, _, t⟩ := hj
    have t2 := x1 _ _ t.2
    rw [e, t2] at g1
    have g3 := Option.some.inj g1
    rw [← g3] at g2
    cases g2
  have far : Far bm [L', L' + 1, 80] := by
    intro b hb
    have lb : @LT.lt Nat _ bm L' := low _ _ F.obj
    simp only [List.mem_cons, List.not_mem_nil, or_false] at hb
    rcases hb with rfl | rfl | rfl
    · exact ⟨(Nat.ne_of_lt lb).symm, .inl h133L⟩
    · exact ⟨(Nat.ne_of_lt (Nat.lt_succ_of_lt lb)).symm, .inl (Nat.le_succ_of_le h133L)⟩
    · exact ⟨Ne.symm hbm, by decide⟩
  have farW : Far bm [h1.objs.size, h1.objs.size + 1] := by
    intro b hb
    have lb : @LT.lt Nat _ bm h1.objs.size := Nat.lt_trans (low _ _ F.obj) lL1
    have l1 : @LE.le Nat _ 133 h1.objs.size := Nat.le_trans h133L (Nat.le_of_lt lL1)
    simp only [List.mem_cons, List.not_mem_nil, or_false] at hb
    rcases hb with rfl | rfl
    · exact ⟨(Nat.ne_of_lt lb).symm, .inl l1⟩
    · exact ⟨(Nat.ne_of_lt (Nat.lt_succ_of_lt lb)).symm, .inl (Nat.le_succ_of_le l1)⟩
  have nW : ∀ b : Nat, b < h1.objs.size → (b : Addr) ∉ [h1.objs.size, h1.objs.size + 1] := fun b hb hm => by
    simp only [List.mem_cons, List.not_mem_nil, or_false] at hm
    rcases hm with rfl | rfl
    · exact Nat.lt_irrefl _ hb
    · exact Nat.lt_irrefl _ (Nat.lt_of_succ_lt hb)
  have nG : ∀ b : Nat, b < L' → b ≠ 80 → (b : Addr) ∉ [L', L' + 1, 80] := fun b hb hP hm => by
    simp only [List.mem_cons, List.not_mem_nil, or_false] at hm
    rcases hm with rfl | rfl | rfl
    · exact Nat.lt_irrefl _ hb
    · exact Nat.lt_irrefl _ (Nat.lt_of_succ_lt hb)
    · exact hP rfl
  have lj : ∀ (h h' : Heap), J80 h → Ex [h1.objs.size, h1.objs.size + 1] h h' → J80 h' := fun h h' hj e => by
    obtain ⟨ps, t1, t2⟩ := hj
    have k : ∀ c o, c = 84 ∨ c = 80 → h.get? c = some o → h'.get? c = some o := fun c o hc q => e c o (nW c (by
      have : c < 133 := by rcases hc with rfl | rfl <;> decide
      exact Nat.lt_of_lt_of_le this (Nat.le_trans h133L (Nat.le_of_lt lL1)))) q
    exact ⟨ps, isCode_at t1 k, tableAt_at t2 k⟩
  have hj4 : J80 h₄ := let ⟨ps, t1, t2⟩ := hj; ⟨ps, t1.keeps x14, t2.keeps x14⟩
  have lP : @LT.lt Nat _ 80 h1.objs.size := Nat.lt_of_lt_of_le (by decide) (Nat.le_trans h133L (Nat.le_of_lt lL1))
  have mem3 : ∀ {b : Addr}, b ∈ [L', L' + 1, 80] → b = L' ∨ b = L' + 1 ∨ b = 80 := fun h => by simpa only [List.mem_cons, List.not_mem_nil, or_false] using h
  have mem2 : ∀ {b : Addr}, b ∈ [h1.objs.size, h1.objs.size + 1] → b = h1.objs.size ∨ b = h1.objs.size + 1 := fun h => by simpa only [List.mem_cons, List.not_mem_nil, or_false] using h
  have gltB : ∀ b, b ∈ [L', L' + 1, 80] → @LT.lt Nat _ b h1.objs.size := fun b hb => by
    rcases mem3 hb with rfl | rfl | rfl
    · exact lL1
    · exact lK1
    · exact lP
  have farA : Far bm (h1.objs.size :: (h1.objs.size + 1) :: [L', L' + 1, 80]) := fun b hb => by
    rcases List.mem_cons.mp hb with rfl | hb
    · exact farW _ (List.mem_cons_self ..)
    · rcases List.mem_cons.mp hb with rfl | hb
      · exact farW _ (List.mem_cons_of_mem _ (List.mem_cons_self ..))
      · exact far b hb
  refine compT_gen (J := J80) (B := h₄.objs.size) (wg := [L', L' + 1, 80]) (g := s.gens.size) (Out := fun i => Tup1 h₄.objs.size (colT l tp (b + 1 - tp).toNat i)) (G := fun i => Row1 h₄.objs.size (colT l tp (b + 1 - tp).toNat i)) rfl (by dsimp only; omega) (by rw [PySem.sizeLine_eq]; omega) (tgt_L hone hkind) na1 ?ha (up2 la1) ?hc (up2 (Nat.lt_trans hcsl lL1)) (nW _ la1) (nW _ (Nat.lt_trans hcsl lL1)) ?hw ?hDg ?hZg lD lZ lj hj4 ?hr hD4 ⟨_, hns4⟩ ?mono ?omono ?el ?fin
  case ha =>
    intro hm
    rcases mem3 hm with h | h | h
    · exact haL h
    · exact haK h
    · exact haP h
  case hc => exact nG _ hcsl (by decide)
  case hw => exact fun b hb => up2 (gltB b hb)
  case hDg => exact fun hm => Nat.lt_irrefl _ (gltB _ hm)
  case hZg => exact fun hm => Nat.lt_irrefl _ (Nat.lt_of_succ_lt (gltB _ hm))
  case mono =>
    rintro i y h h' ⟨T, vs, n, rfl, hB, g, sv⟩ k
    exact ⟨T, vs, n, rfl, hB, k _ _ hB (by simp [Priv, lstN]) g, sv⟩
  case omono =>
    rintro i y h h' ⟨T, vs, rfl, hB, g, sv⟩ k
    exact ⟨T, vs, rfl, hB, k _ _ hB (by simp [Priv, tupObj]) g, sv⟩
  case el =>
    rintro i v s' hi ⟨T, vs, rfl, hB, g, sv⟩ hone' hx
    have ex : Ex (h1.objs.size :: (h1.objs.size + 1) :: [L', L' + 1, 80]) h₄ s'.heap := fun b o hb e => hx b o hb (.inl (Heap.lt_size e)) e
    have F' := F4.ex farA ex
    rw [e2]
    refine wpAny_mono (el_list1 F'.X F'.T (by omega) (by omega) hone' g (by rw [strs_len sv]; simp [colT]; omega)) (fun y s₁ q9 => ?_) fun _ _ q => q
    obtain ⟨kp, n, rfl, g'⟩ := q9
    exact ⟨⟨_, vs, n, rfl, Nat.le_of_lt (Nat.lt_of_le_of_lt hB (Heap.lt_size g)), g', sv⟩, kp⟩
  case fin =>
    intro h' tk gs ys hx hP hJ hD hlen hpt hG hf
    obtain ⟨m', hm'⟩ := hP
    refine ⟨m', hm', fun h'' hs => ret h'' tk gs h1.objs.size ys (fun b o hb e => ?_) (lj _ _ hJ fun b o hb e => hs.extBut b o (fun q => hb (by rw [q]; simp)) e) (fun b o e => Nat.lt_trans (low b o e) lL1) ((hs.2 _ na1).trans hD) hlen (fun j y hy => ?_) (bare_all fun k st e => ?_)⟩
    · have hbL := low b o e
      have hb1 : @LT.lt Nat _ b h1.objs.size := Nat.lt_trans hbL lL1
      refine hs.extBut b o (Nat.ne_of_lt (Nat.lt_succ_of_lt hb1)) (hx b o (fun hm => ?_) (.inl (up2 hb1)) (x14 b o e))
      rcases List.mem_cons.mp hm with q | hm
      · exact Nat.ne_of_lt hb1 q
      · rcases List.mem_cons.mp hm with q | hm
        · exact Nat.ne_of_lt (Nat.lt_succ_of_lt hb1) q
        · exact nG b hbL (fun q => hb (List.mem_singleton.mpr q)) hm
    · obtain ⟨T, vs, n, rfl, hB, g, sv⟩ := hpt j y hy
      exact ⟨T, vs, n, rfl, Nat.zero_le _, hs.extBut T _ (fun q => by rw [q] at hB; exact Nat.lt_irrefl _ (Nat.lt_of_lt_of_le lZ hB)) g, sv⟩
    · rcases Nat.lt_trichotomy k s.gens.size with z | z | z
      · rw [hG.1 k z] at e
        have e' : s.gens[k]? = some st := by rw [← e]; exact (Array.getElem?_push_lt (h := z)).symm ▸ (Array.getElem?_eq_getElem z)
        exact hg st (Array.mem_of_getElem? e')
      · rw [z, hf] at e; cases e; rfl
      · exact hG.2.2 (fun k' st' hk' e' => by
          have : (s.gens.push (.fresh (.func colsBody (colsEnv L'))))[k']? = none := Array.getElem?_eq_none (by rw [Array.size_push]; omega)
          exact absurd (this.symm.trans e') (by simp)) k st z e
  case hr =>
    refine ⟨hgen4, F4.T.nolimit, _, Array.getElem?_push_size .., fun s'' hA => ⟨rfl, ?_⟩⟩
    have F5 := F4.ex farW hA.1
    refine cols_seg (mg := mg) (mb := mb) (bm := bm) (ob := ob) (txt := txt) (y := y) (tx := tx) (r := r) (b := b) (q := q) rfl (by dsimp only; omega) (by dsimp only; omega) F5 (nsL4.at' fun o e => hA.1 _ o (nW _ lL1) e) emL ?_ (lj _ _ hj4 hA.1) K hl3 q1 q2 hb1 q3 q4 hb4 farW (nW _ lL1) (nW _ lK1) (nW _ lP) ?_ ⟨h1.objs.size + 1, ?_⟩ h133L far ?_ rfl rfl
    · obtain ⟨o, n1, n2⟩ := ckL4
      exact ⟨_, o, hA.1 _ o (nW _ lK1) n1, n2⟩
    · intro c hc
      rcases mem2 hc with rfl | rfl
      · exact hA.2.1 _ _ hD4
      · obtain ⟨o, _, _, e, _⟩ := hns4
        exact hA.2.1 _ _ e
    · obtain ⟨o, _, _, e, _⟩ := hns4
      obtain ⟨o', e'⟩ := hA.2.1 _ _ e
      exact ⟨o', Nat.le_of_eq hsz4, e'⟩
    · rw [hA.2.2.1]; exact Nat.le_of_eq (Array.size_push _).symm
end Mine
end
section
open PySem PySem.W PySem.Calls PySem.Spec PyProof.Rows
set_option Elab.async false
set_option maxRecDepth 100000
set_option maxHeartbeats 1000000
set_option linter.unusedVariables false
set_option linter.unusedSimpArgs false
namespace Mine
theorem fillK28 : PySem.Challenge.rw_ez0208_01 = PySem.Challenge.rw_ez0208_01 → (∀ P, Mine.hd.heap_39 P = Mine.hd.heap_39 P) := by k_fill; intros; rfl
local macro_rules | `(tactic| walk_at "eval Name") => `(tactic| (k_dflt (first
  | (name_kind "local"; refine nm_hasLC (by with_reducible assumption) ?_)
  | (name_kind "local"; refine nm_localE (by with_reducible assumption) (by with_reducible assumption) ?_)
  | (name_kind "globalImplicit"; refine nm_glob (by with_reducible assumption) (by with_reducible assumption) (by k_is) ?_)
  | (name_kind "globalImplicit"; refine nm_built (by with_reducible assumption) (by with_reducible assumption) (by k_is) (by boot_by_name) (by decide) ?_))))
local macro_rules | `(tactic| walk_at "call type:range") => `(tactic| (k_dflt (first | refine rng2 ?_ | refine rng1 ?_); intro h' tk' r' t' u' v' e' hr'))
local macro_rules | `(tactic| walk_at "RangeAt") => `(tactic| (exact ⟨⟨_, _, rfl, by assumption⟩, _, _, _, _, rfl, by assumption⟩))
theorem names_it : ∀ {w : World} {mg mb : Str → Option Value} {d u : Nat} {fr : Option (List Env)} {gd : Option (List Code)} {s : Shared} {L fa : Addr} {cd : Value} {m : Str → Option Value} {tp b : Int} {tt tb : Tok}
    (X : (Mine.hd.heap_39 w.params).In s.heap) (T : TopRead Mine.hd.view_39 LO mg mb s.heap) (hd : d + 100 < recursionLimit) (hu : u + 1000 < cLine) (ns : s.heap.Ns L m) (et : m (Str.ofString "top") = some (.int tp tt)) (eb : m (Str.ofString "bottom") = some (.int b tb)),
    wpAny (model PySem.Challenge.rw_ez0208_01.row.prog w) ⟨none, d, fr, gd, u⟩ (eval (theE (iterE namesE)) (lawEnv L fa cd)) (RangeAt s tp (b + 1)) FF s := by
  k_fill
  intro w mg mb d u fr gd s L fa cd m tp b tt tb X T hd hu ns et eb
  have eS : lawScope = lawScope := rfl
  conv at eS => rhs; whnf
  have eI : theE (iterE namesE) = theE (iterE namesE) := rfl
  conv at eI => rhs; whnf
  rw [eI]
  unfold lawEnv
  rw [eS]
  clear eI eS
  k_steps
theorem names_lc {L fa : Addr} {cd : Value} : ∃ elt px iter pos, theE namesE = .ListComp elt [⟨.Name (Str.ofString "row") px, iter, [], 0⟩] (scE namesE) pos ∧ elt = theE (eltE namesE) ∧ iter = theE (iterE namesE) ∧ (∀ env x, foldedSetIterable iter env x = pure x) ∧ closureFor (scE namesE) (lawEnv L fa cd) = pure [(Str.ofString "right", L + 1 + 1 + 1), (Str.ofString "left", L + 1 + 1)] ∧
    (∀ b cl, cellsFrom b (scE namesE).names cl = (Str.ofString "row", b) :: cl) ∧ (∀ h : Heap, pushCells h (scE namesE).names = h.push { cls := .type "cell", data := .cell none }) ∧ (scE namesE).kind = .function ∧ (∀ y ∈ (scE namesE).names, y.2 = .local → (scE namesE).names.lookup y.1 = some .local) ∧ (∀ C K, (compEnvC (scE namesE) [(Str.ofString "row", K), (Str.ofString "right", L + 1 + 1 + 1), (Str.ofString "left", L + 1 + 1)] C (lawEnv L fa cd)).kindOf (Str.ofString "row") = some .cell) :=
  ⟨_, _, _, _, rfl, rfl, rfl, fun _ _ => by rfl, by rfl, fun _ _ => rfl, fun _ => rfl, rfl, by decide +kernel, fun _ _ => rfl⟩
theorem names_c {w : World} {mg mb : Str → Option Value} {d u : Nat} {fr : Option (List Env)} {gd : Option (List Code)} {s : Shared} {Q : Value → Shared → Prop} {L fa : Addr} {cd : Value} {m : Str → Option Value} {l tp r b : Int} {tl tr tt tb : Tok}
    (X : (Mine.hd.heap_39 w.params).In s.heap) (T : TopRead Mine.hd.view_39 LO mg mb s.heap) (hd : d + 100 < recursionLimit) (hu : u + 1000 < cLine) (ns : s.heap.Ns L m) (et : m (Str.ofString "top") = some (.int tp tt)) (eb : m (Str.ofString "bottom") = some (.int b tb)) (c2 : s.heap.IsCell (L + 1 + 1) (some (.int l tl))) (c3 : s.heap.IsCell (L + 1 + 1 + 1) (some (.int r tr)))
    (hl3 : l = 1 ∨ l = 26 ∨ l = 701) (q1 : l ≤ r) (q2 : r < l + 4) (hb1 : 1 ≤ tp) (q3 : tp ≤ b) (q4 : b < tp + 4) (hb4 : b ≤ 15)
    (ret : ∀ B D ys h' tk, Ext s.heap h' → (∀ B₀, Lv B₀ s.heap → @LE.le Nat _ B₀ D) → h'.get? D = some (LCg.lst ys) → ys.length = (b + 1 - tp).toNat → (∀ (j : Nat) y, ys[j]? = some y → Row1 B (rowT l tp (r + 1 - l).toNat j) y h') → Q (.ref D) { s with heap := h', toks := tk }) :
    wpAny (model PySem.Challenge.rw_ez0208_01.row.prog w) ⟨none, d, fr, gd, u⟩ (eval (theE namesE) (lawEnv L fa cd)) Q FF s := by
  obtain ⟨elt, px, iter, pos, e1, e2, e3, hfold, hclos, hcf, hpc, hkind, hnames, hx⟩ := names_lc (L := L) (fa := fa) (cd := cd)
  rw [e1]
  refine comp_range_C (a := tp) (n := (b + 1 - tp).toNat) (G := fun B i y h => Row1 B (rowT l tp (r + 1 - l).toNat i) y h) hclos (fun b => hcf b _) hpc hkind hnames hx rfl (fun x => hfold _ x) ?hit (small_one (by omega) (by omega) (by omega) (by omega)) (by rw [rangeSize_nat]; omega) (by rw [PySem.sizeLine_eq]; omega) ?mono ?el ?ret
  case hit =>
    have e9 : tp + ((b + 1 - tp).toNat : Int) = b + 1 := by omega
    rw [e9, e3]
    exact wpAny_mono (names_it X T hd hu ns et eb) (fun _ _ q => q) fun _ _ q => q
  case mono => exact fun B i y h h' x k => row1_mono x k
  case ret => exact ret
  case el =>
    intro B C K i t h' tk hi hK hns e hB
    rw [e2]
    refine inner_c (s := { s with heap := h', toks := tk }) (l := l) (r := r) (row := tp + (i : Int)) (ext_in X e) (ext_read T e) hd hu (cell_ext c2 e) (cell_ext c3 e) hK hl3 q1 q2 (by omega) (by omega) fun D ys h2 tk2 e2 lv hD hl hg => ⟨⟨D, ys, _, rfl, lv B hB, hD, strs_of hl hg⟩, h2, tk2, rfl, e2⟩
end Mine
end
section
local macro_rules | `(tactic| walk_at "mine pad 0") => `(tactic| skip)
local macro_rules | `(tactic| walk_at "mine pad 1") => `(tactic| skip)
local macro_rules | `(tactic| walk_at "mine pad 2") => `(tactic| skip)
local macro_rules | `(tactic| walk_at "mine pad 3") => `(tactic| skip)
local macro_rules | `(tactic| walk_at "mine pad 4") => `(tactic| skip)
local macro_rules | `(tactic| walk_at "mine pad 5") => `(tactic| skip)
local macro_rules | `(tactic| walk_at "mine pad 6") => `(tactic| skip)
local macro_rules | `(tactic| walk_at "mine pad 7") => `(tactic| skip)
local macro_rules | `(tactic| walk_at "mine pad 8") => `(tactic| skip)
local macro_rules | `(tactic| walk_at "mine pad 9") => `(tactic| skip)
local macro_rules | `(tactic| walk_at "mine pad 10") => `(tactic| skip)
local macro_rules | `(tactic| walk_at "mine pad 11") => `(tactic| skip)
local macro_rules | `(tactic| walk_at "mine pad 12") => `(tactic| skip)
local macro_rules | `(tactic| walk_at "mine pad 13") => `(tactic| skip)
open PySem PySem.W PySem.Calls PySem.Spec PyProof.Rows
set_option Elab.async false
set_option maxRecDepth 100000
set_option maxHeartbeats 1000000
set_option linter.unusedVariables false
set_option linter.unusedSimpArgs false
namespace Mine
theorem fillK29 : PySem.Challenge.rw_ez0208_01 = PySem.Challenge.rw_ez0208_01 → (∀ P, Mine.hd.heap_39 P = Mine.hd.heap_39 P) := by k_fill; intros; rfl
/-- the list by columns out of names -/
def turnE : Option Expr := rightE (cmpE 1)
local macro_rules | `(tactic| walk_at "eval Name") => `(tactic| (k_dflt (first
  | (name_kind "local"; refine nm_hasLC (by with_reducible assumption) ?_)
  | (name_kind "local"; refine nm_localE (by with_reducible assumption) (by with_reducible assumption) ?_)
  | (name_kind "free"; refine' nm_cell ?hv ?_ ?hc; (case hc => rfl); (case hv => with_reducible assumption))
  | (name_kind "cell"; refine' nm_cell ?hv ?_ ?hc; (case hc => rfl); (case hv => with_reducible assumption))
  | (name_kind "globalImplicit"; refine nm_glob (by with_reducible assumption) (by with_reducible assumption) (by k_is) ?_)
  | (name_kind "globalImplicit"; refine nm_built (by with_reducible assumption) (by with_reducible assumption) (by k_is) (by boot_by_name) (by decide) ?_))))
local macro_rules | `(tactic| walk_at "call type:range") => `(tactic| (k_dflt (first | refine rng2 ?_ | refine rng1 ?_); intro h' tk' r' t' u' v' e' hr'))
local macro_rules | `(tactic| walk_at "RangeAt") => `(tactic| (exact ⟨⟨_, _, rfl, by assumption⟩, _, _, _, _, rfl, by assumption⟩))
theorem turn_it : ∀ {w : World} {mg mb : Str → Option Value} {d u : Nat} {fr : Option (List Env)} {gd : Option (List Code)} {s : Shared} {L fa : Addr} {cd : Value} {l r : Int} {tl tr : Tok}
    (X : (Mine.hd.heap_39 w.params).In s.heap) (T : TopRead Mine.hd.view_39 LO mg mb s.heap) (hd : d + 100 < recursionLimit) (hu : u + 1000 < cLine) (c2 : s.heap.IsCell (L + 1 + 1) (some (.int l tl))) (c3 : s.heap.IsCell (L + 1 + 1 + 1) (some (.int r tr))),
    wpAny (model PySem.Challenge.rw_ez0208_01.row.prog w) ⟨none, d, fr, gd, u⟩ (eval (theE (iterE turnE)) (lawEnv L fa cd)) (RangeAt s 0 (r + 1 - l)) FF s := by
  k_fill
  intro w mg mb d u fr gd s L fa cd l r tl tr X T hd hu c2 c3
  have eS : lawScope = lawScope := rfl
  conv at eS => rhs; whnf
  have eI : theE (iterE turnE) = theE (iterE turnE) := rfl
  conv at eI => rhs; whnf
  rw [eI]
  unfold lawEnv
  rw [eS]
  clear eI eS
  k_steps
theorem turn_lc {L fa : Addr} {cd : Value} : ∃ elt px iter pos, theE turnE = .ListComp elt [⟨.Name (Str.ofString "k") px, iter, [], 0⟩] (scE turnE) pos ∧ elt = theE (eltE turnE) ∧ iter = theE (iterE turnE) ∧ (∀ env x, foldedSetIterable iter env x = pure x) ∧ closureFor (scE turnE) (lawEnv L fa cd) = pure [(Str.ofString "names", L + 1 + 1 + 1 + 1)] ∧
    (∀ b cl, cellsFrom b (scE turnE).names cl = (Str.ofString "k", b) :: cl) ∧ (∀ h : Heap, pushCells h (scE turnE).names = h.push { cls := .type "cell", data := .cell none }) ∧ (scE turnE).kind = .function ∧ (∀ y ∈ (scE turnE).names, y.2 = .local → (scE turnE).names.lookup y.1 = some .local) ∧ (∀ C K, (compEnvC (scE turnE) [(Str.ofString "k", K), (Str.ofString "names", L + 1 + 1 + 1 + 1)] C (lawEnv L fa cd)).kindOf (Str.ofString "k") = some .cell) :=
  ⟨_, _, _, _, rfl, rfl, rfl, fun _ _ => by rfl, by rfl, fun _ _ => rfl, fun _ => rfl, rfl, by decide +kernel, fun _ _ => rfl⟩
/-- one[k] -/
theorem turn_elt : ∀ {w : World} {mg mb : Str → Option Value} {d u : Nat} {fr : Option (List Env)} {gd : Option (List Code)} {s : Shared} {L fa K C C2 T Dn : Addr} {cd : Value} {k : Nat} {tk : Tok} {vs : List Value} {n : Nat} {v : Value}
    (ho : HasL C2 (Str.ofString "one") (.ref T) s.heap) (ck : s.heap.IsCell K (some (.int (k : Int) tk))) (hT : s.heap.get? T = some (lstN vs n)) (hv : vs[k]? = some v) (hk : (k : Int) < 4),
    wpAny (model PySem.Challenge.rw_ez0208_01.row.prog w) ⟨none, d, fr, gd, u⟩ (eval (theE (eltE (eltE turnE))) (compEnvC (scE (eltE turnE)) [(Str.ofString "k", K)] C2 (compEnvC (scE turnE) [(Str.ofString "k", K), (Str.ofString "names", L + 1 + 1 + 1 + 1)] C (lawEnv L fa cd)))) (fun y s₁ => y = v ∧ Keeps s s₁) FF s := by
  k_fill
  intro w mg mb d u fr gd s L fa K C C2 T Dn cd k tk vs n v ho ck hT hv hk
  have eS : lawScope = lawScope := rfl
  conv at eS => rhs; whnf
  have eN : scE turnE = scE turnE := rfl
  conv at eN => rhs; whnf
  have eN2 : scE (eltE turnE) = scE (eltE turnE) := rfl
  conv at eN2 => rhs; whnf
  have eI : theE (eltE (eltE turnE)) = theE (eltE (eltE turnE)) := rfl
  conv at eI => rhs; whnf
  rw [eI, eN, eN2]
  unfold lawEnv
  rw [eS]
  clear eI eN eN2 eS
  k_steps
  exact item_listL (l := vs) ⟨_, hT, rfl, _, rfl⟩ (by omega) (by omega) (by simpa using hv) ⟨rfl, _, _, rfl, fun _ _ e => e⟩ (by with_unfolding_all rfl) (by intro _; with_unfolding_all rfl)
theorem turn_li {L fa K C : Addr} {cd : Value} : ∃ elt px pi pos, theE (eltE turnE) = .ListComp elt [⟨.Name (Str.ofString "one") px, .Name (Str.ofString "names") pi, [], 0⟩] (scE (eltE turnE)) pos ∧ elt = theE (eltE (eltE turnE)) ∧ (∀ env x, foldedSetIterable (.Name (Str.ofString "names") pi) env x = pure x) ∧ closureFor (scE (eltE turnE)) (compEnvC (scE turnE) [(Str.ofString "k", K), (Str.ofString "names", L + 1 + 1 + 1 + 1)] C (lawEnv L fa cd)) = pure [(Str.ofString "k", K)] ∧
    (∀ y ∈ (scE (eltE turnE)).names, y.2 ≠ .cell) ∧ (scE (eltE turnE)).kind = .function ∧ (∀ y ∈ (scE (eltE turnE)).names, y.2 = .local → (scE (eltE turnE)).names.lookup y.1 = some .local) ∧ (scE (eltE turnE)).names.lookup (Str.ofString "one") = some .local ∧
    (compEnvC (scE turnE) [(Str.ofString "k", K), (Str.ofString "names", L + 1 + 1 + 1 + 1)] C (lawEnv L fa cd)).kindOf (Str.ofString "names") = some .cell ∧ (compEnvC (scE turnE) [(Str.ofString "k", K), (Str.ofString "names", L + 1 + 1 + 1 + 1)] C (lawEnv L fa cd)).scope.kind = .function ∧ (compEnvC (scE turnE) [(Str.ofString "k", K), (Str.ofString "names", L + 1 + 1 + 1 + 1)] C (lawEnv L fa cd)).cells.lookup (Str.ofString "names") = some (L + 1 + 1 + 1 + 1) :=
  ⟨_, _, _, _, rfl, rfl, fun _ _ => by rfl, by rfl, by decide +kernel, rfl, by decide +kernel, by rfl, by rfl, by rfl, by rfl⟩
theorem row_at {l tp : Int} {nc i k : Nat} {vs : List Value} (h : StrsAre vs (rowT l tp nc i)) (hk : k < nc) : ∃ t, vs[k]? = some (.str (cellT (l + (k : Int)) (tp + (i : Int))) t) := by
  have e : (rowT l tp nc i)[k]? = some (cellT (l + (k : Int)) (tp + (i : Int))) := by
    unfold rowT
    rw [List.getElem?_map, List.getElem?_range hk]; rfl
  exact h.at e
theorem turn_c {w : World} {mg mb : Str → Option Value} {d u : Nat} {fr : Option (List Env)} {gd : Option (List Code)} {s : Shared} {Q : Value → Shared → Prop} {L fa Dn : Addr} {cd : Value} {l tp r : Int} {nr : Nat} {tl tr : Tok} {ys : List Value}
    (X : (Mine.hd.heap_39 w.params).In s.heap) (T : TopRead Mine.hd.view_39 LO mg mb s.heap) (hd : d + 100 < recursionLimit) (hu : u + 1000 < cLine) (c2 : s.heap.IsCell (L + 1 + 1) (some (.int l tl))) (c3 : s.heap.IsCell (L + 1 + 1 + 1) (some (.int r tr))) (c4 : s.heap.IsCell (L + 1 + 1 + 1 + 1) (some (.ref Dn)))
    (q1 : l ≤ r) (q2 : r < l + 4) (hnr : nr ≤ 4) (hD : ∃ n, s.heap.get? Dn = some (lstN ys n)) (hl : ys.length = nr) (hp : ∀ (j : Nat) y, ys[j]? = some y → Row1 0 (rowT l tp (r + 1 - l).toNat j) y s.heap)
    (ret : ∀ B D zs h' tk, Ext s.heap h' → (∀ B₀, Lv B₀ s.heap → @LE.le Nat _ B₀ D) → h'.get? D = some (LCg.lst zs) → zs.length = (r + 1 - l).toNat → (∀ (j : Nat) y, zs[j]? = some y → Row1 B (colT l tp nr j) y h') → Q (.ref D) { s with heap := h', toks := tk }) :
    wpAny (model PySem.Challenge.rw_ez0208_01.row.prog w) ⟨none, d, fr, gd, u⟩ (eval (theE turnE) (lawEnv L fa cd)) Q FF s := by
  obtain ⟨elt, px, iter, pos, e1, e2, e3, hfold, hclos, hcf, hpc, hkind, hnames, hx⟩ := turn_lc (L := L) (fa := fa) (cd := cd)
  obtain ⟨n, hD⟩ := hD
  rw [e1]
  refine comp_range_C (a := 0) (n := (r + 1 - l).toNat) (G := fun B i y h => Row1 B (colT l tp nr i) y h) hclos (fun b => hcf b _) hpc hkind hnames hx rfl (fun x => hfold _ x) ?hit (small_one (by omega) (by omega) (by omega) (by omega)) (by rw [rangeSize_nat]; omega) (by rw [PySem.sizeLine_eq]; omega) ?mono ?el ?ret
  case hit =>
    have e9 : (0 : Int) + ((r + 1 - l).toNat : Int) = r + 1 - l := by omega
    rw [e9, e3]
    exact wpAny_mono (turn_it X T hd hu c2 c3) (fun _ _ q => q) fun _ _ q => q
  case mono => exact fun B i y h h' x k => row1_mono x k
  case ret => exact ret
  case el =>
    intro B C K i t h' tk hi hK hns e hB
    rw [Int.zero_add] at hK
    rw [e2]
    obtain ⟨elt', px', pi, pos', f1, f2, f3, f4, f5, f6, f7, f8, f9, f10, f11⟩ := turn_li (L := L) (fa := fa) (K := K) (C := C) (cd := cd)
    rw [f1]
    refine comp_list_L (s := { s with heap := h', toks := tk }) (items := ys.toArray) (G := fun B j y h => StrAt (cellT (l + (i : Int)) (tp + (j : Int))) y h) f4 f5 f6 f7 f8 rfl (fun x => f3 _ x) ?_ (by rw [PySem.sizeLine_eq, List.size_toArray]; omega) (fun B i y h h' q _ => q) ?_ ?_
    · exact nm_cell (cell_ext c4 e) ⟨⟨_, _, rfl, fun _ _ e => e⟩, _, rfl, ⟨_, e _ _ hD, rfl, _, rfl⟩⟩ f11 f10 f9 (by decide)
    · intro B' C' j v h2 tk2 hv ho e2' hB'
      rw [f2]
      obtain ⟨T', vs, n', rfl, _, g, sv⟩ := hp j v (by rw [← List.getElem?_toArray]; exact hv)
      obtain ⟨t', ht'⟩ := row_at sv hi
      refine wpAny_mono (turn_elt (mg := mg) (mb := mb) (Dn := Dn) ho (cell_ext hK e2') (e2' _ _ (e _ _ g)) ht' (by omega)) (fun y s₁ q => ?_) fun _ _ q => q
      obtain ⟨rfl, kp⟩ := q
      exact ⟨⟨t', rfl⟩, kp⟩
    · intro B' D zs h2 tk2 e2' lv hD' hl' hg
      refine ⟨⟨D, zs, _, rfl, lv B hB, hD', ?_⟩, h2, tk2, rfl, e2'⟩
      have hl2 : zs.length = nr := by rw [hl', List.size_toArray]; exact hl
      exact strs_of hl2 hg
end Mine
end
section
open PySem PySem.W PySem.Calls PySem.Spec PyProof.Rows
set_option Elab.async false
set_option maxRecDepth 100000
set_option maxHeartbeats 1000000
set_option linter.unusedVariables false
set_option linter.unusedSimpArgs false
namespace Mine
theorem fillK30 : PySem.Challenge.rw_ez0208_01 = PySem.Challenge.rw_ez0208_01 → (∀ P, Mine.hd.heap_39 P = Mine.hd.heap_39 P) := by k_fill; intros; rfl
local macro_rules | `(tactic| walk_at "eval Name") => `(tactic| (k_dflt (first
  | (name_kind "local"; refine nm_localE (by with_reducible assumption) (by with_reducible assumption) ?_))))
def tstE : Option Expr := match lawBody.drop 10 with | .If t _ _ _ :: _ => some t | _ => none
theorem tst_c : ∀ {w : World} {mg mb : Str → Option Value} {d u : Nat} {fr : Option (List Env)} {gd : Option (List Code)} {s : Shared} {L fa : Addr} {cd : Value} {m : Str → Option Value} {k : Int} {tk : Tok}
    (X : (Mine.hd.heap_39 w.params).In s.heap) (T : TopRead Mine.hd.view_39 LO mg mb s.heap) (ns : s.heap.Ns L m) (ek : m (Str.ofString "kind") = some (.int k tk)) (hk : k < 2),
    wpAny (model PySem.Challenge.rw_ez0208_01.row.prog w) ⟨none, d, fr, gd, u⟩ (isTrue (theE tstE) (lawEnv L fa cd) (eval (theE tstE) (lawEnv L fa cd))) (fun b s' => b = true ∧ ∃ tk, s' = { s with toks := tk }) FF s := by
  k_fill
  intro w mg mb d u fr gd s L fa cd m k tk X T ns ek hk
  have eS : lawScope = lawScope := rfl
  conv at eS => rhs; whnf
  have eI : theE tstE = theE tstE := rfl
  conv at eI => rhs; whnf
  rw [eI]
  unfold lawEnv
  rw [eS]
  clear eI eS
  k_steps
theorem law_lc : ∃ pn pa pq p0 p1 pb rt pc pd, (lawBody.drop 10).take 1 = [.If (theE tstE) [.Assign [.Name (Str.ofString "names") pn] (theE namesE) pa, .If (.BoolOp .Or [.Compare (theE (leftE (cmpE 0))) [.NotEq] [.Name (Str.ofString "names") pq] p0, .Compare (theE (leftE (cmpE 1))) [.NotEq] [theE turnE] p1] pb) rt [] pc] [] pd] := ⟨_, _, _, _, _, _, _, _, _, rfl⟩
theorem law_k1 {L fa : Addr} {cd : Value} : (lawEnv L fa cd).scope.kind = .function := rfl
theorem law_k2 {L fa : Addr} {cd : Value} : (lawEnv L fa cd).kindOf (Str.ofString "names") = some .cell := rfl
theorem law_k3 {L fa : Addr} {cd : Value} : (lawEnv L fa cd).cells.lookup (Str.ofString "names") = some (L + 1 + 1 + 1 + 1) := rfl
theorem law_k4 {L fa : Addr} {cd : Value} {pn pa : Pos} : swapsWith (theE namesE) (some (.Name (Str.ofString "names") pn)) pa.line (lawEnv L fa cd) = pure false := rfl
theorem strOk_app {a b : Str} (ha : PyData.strOk a = true) (hb : PyData.strOk b = true) : PyData.strOk (a ++ b) = true := by
  unfold PyData.strOk at *
  rw [cpsA, Array.all_append, ha, hb]; rfl
theorem cellT_ok {l r : Int} (h : IsC l) (h1 : 1 ≤ r) (h2 : r ≤ 15) : PyData.strOk (cellT l r) = true := by
  refine strOk_app ?_ ?_
  · rcases h with rfl | rfl | rfl | rfl | rfl | rfl | rfl | rfl | rfl | rfl | rfl | rfl <;> decide +kernel
  · have hr : r = 1 ∨ r = 2 ∨ r = 3 ∨ r = 4 ∨ r = 5 ∨ r = 6 ∨ r = 7 ∨ r = 8 ∨ r = 9 ∨ r = 10 ∨ r = 11 ∨ r = 12 ∨ r = 13 ∨ r = 14 ∨ r = 15 := by omega
    rcases hr with rfl | rfl | rfl | rfl | rfl | rfl | rfl | rfl | rfl | rfl | rfl | rfl | rfl | rfl | rfl <;> decide +kernel
theorem lay_all {l : List PyData} (h : ∀ x ∈ l, PyData.canLay0 x = true) : PyData.canLayAll0 l = true := by
  induction l with
  | nil => rfl
  | cons a l ih => simp only [PyData.canLayAll0, h a (.head _), ih fun x hx => h x (.tail _ hx), Bool.and_self]
theorem dep_all {l : List PyData} {n : Nat} (h : ∀ x ∈ l, PyData.depth x ≤ n) : PyData.depthAll l ≤ n := by
  induction l with
  | nil => exact Nat.zero_le _
  | cons a l ih =>
    simp only [PyData.depthAll]
    exact Nat.max_le.mpr ⟨h a (.head _), ih fun x hx => h x (.tail _ hx)⟩
theorem rowsD_lay {n k : Nat} {f : Nat → Nat → Str} (h : ∀ i j, i < n → j < k → PyData.strOk (f i j) = true) : PyData.canLay0 (rowsD n k f) = true := by
  unfold rowsD
  simp only [PyData.canLay0]
  refine lay_all fun x hx => ?_
  obtain ⟨i, hi, rfl⟩ := List.mem_map.mp hx
  simp only [PyData.canLay0]
  refine lay_all fun y hy => ?_
  obtain ⟨z, hz, rfl⟩ := List.mem_map.mp hy
  obtain ⟨j, hj, rfl⟩ := List.mem_map.mp hz
  simp only [PyData.canLay0]
  exact h i j (List.mem_range.mp hi) (List.mem_range.mp hj)
theorem rowsD_dep {n k : Nat} {f : Nat → Nat → Str} : PyData.depth (rowsD n k f) ≤ 64 := by
  unfold rowsD
  simp only [PyData.depth]
  have : PyData.depthAll ((List.range n).map fun i => PyData.list (((List.range k).map (f i)).map .str)) ≤ 1 := by
    refine dep_all fun x hx => ?_
    obtain ⟨i, hi, rfl⟩ := List.mem_map.mp hx
    simp only [PyData.depth]
    have : PyData.depthAll (((List.range k).map (f i)).map PyData.str) ≤ 0 := by
      refine dep_all fun y hy => ?_
      obtain ⟨z, hz, rfl⟩ := List.mem_map.mp hy
      exact Nat.le_refl _
    omega
  omega
theorem ne_rows {prog : Program} {w : World} {A : Around} {E : Value → Shared → Prop} {s : Shared} {Q : Value → Shared → Prop} {n k : Nat} {f : Nat → Nat → Str} {D1 D2 : Addr} {as bs : List Addr}
    (h : ∀ i j, i < n → j < k → PyData.strOk (f i j) = true) (ra : Reads s.heap (.ref D1) (rowsD n k f) as) (rb : Reads s.heap (.ref D2) (rowsD n k f) bs) (hu : A.units + 64 < cLine) (q : Q (.bool false) s) : wpAny (model prog w) A (compareOp .NotEq (.ref D1) (.ref D2)) Q E s := by
  have hl := rowsD_lay h
  have hs : SeqAt.shaped (rowsD n k f) = true := by
    unfold SeqAt.shaped
    rw [hl, decide_eq_true rowsD_dep]; rfl
  exact ne_dataH ra rb hs hs hu (by rw [SeqAt.eqv_refl _ hl]; exact q)
end Mine
end
section
open PySem PySem.W PySem.Calls PySem.Spec PyProof.Rows
set_option Elab.async false
set_option maxRecDepth 100000
set_option maxHeartbeats 1000000
set_option linter.unusedVariables false
set_option linter.unusedSimpArgs false
namespace Mine
def NoSeq (W : List Addr) (h : Heap) : Prop := ∀ b, b ∈ W → ∀ o, h.get? b = some o → ∀ it n, o.data ≠ .seq it n
theorem seq_kp {W : List Addr} {h h' : Heap} {D : Addr} {o : Obj} {it : Array Value} {n : Nat} (e : h.get? D = some o) (hd : o.data = .seq it n) (x : Ex W h h') (ns : NoSeq W h) : h'.get? D = some o := x D o (fun hm => ns D hm o e it n hd) e
theorem row1_kp {W : List Addr} {h h' : Heap} {B : Nat} {ws : List Str} {y : Value} (r : Row1 B ws y h) (x : Ex W h h') (ns : NoSeq W h) : Row1 B ws y h' := by
  obtain ⟨T, vs, n, rfl, hB, g, sv⟩ := r
  exact ⟨T, vs, n, rfl, hB, seq_kp g rfl x ns, sv⟩
theorem noseq_cell {h : Heap} {c : Addr} {v : Option Value} (x : h.IsCell c v) : NoSeq [c] h := by
  intro b hb o e it n hd
  rw [List.mem_singleton.mp hb] at e
  obtain ⟨o', e', d'⟩ := x
  rw [e] at e'; cases e'
  rw [hd] at d'; cases d'
theorem noseq_tab {h : Heap} {c P : Addr} {ps : Array Value} (x : h.TableAt c P ps) : NoSeq [P] h := by
  intro b hb o e it n hd
  rw [List.mem_singleton.mp hb, x.2] at e
  cases e; cases hd
theorem row1_ext {h h' : Heap} {B : Nat} {ws : List Str} {y : Value} (r : Row1 B ws y h) (x : Ext h h') : Row1 B ws y h' := row1_mono r fun b o _ e => x b o e
theorem na4 {I : Addr} : I ≠ I + 1 + 1 + 1 + 1 := Nat.ne_of_lt (Nat.lt_succ_of_lt (Nat.lt_succ_of_lt (Nat.lt_succ_of_lt (Nat.lt_succ_self _))))
theorem law_11v {w : World} {mg mb : Str → Option Value} {bm : Addr} {ob : Obj} {d u : Nat} {fr : Option (List Env)} {gd : Option (List Code)} {s : Shared} {Q : Flow → Shared → Prop} {L fa : Addr} {cd : Value} {m : Str → Option Value} {txt y : Str} {l tp r b k : Int} {q : Nat} {tl tr tt tb tx tk : Tok}
    (F : WF w.params mg mb bm ob s.heap) (hbm75 : bm ≠ 75) (hbm80 : bm ≠ 80) (hd : d + 100 < recursionLimit) (hu : u + 1000 < cLine) (ns : s.heap.Ns L m)
    (et : m (Str.ofString "top") = some (.int tp tt)) (eb : m (Str.ofString "bottom") = some (.int b tb)) (ex : m (Str.ofString "text") = some (.str txt tx)) (ek : m (Str.ofString "kind") = some (.int k tk)) (hk : k < 2)
    (c2 : s.heap.IsCell (L + 1 + 1) (some (.int l tl))) (c3 : s.heap.IsCell (L + 1 + 1 + 1) (some (.int r tr))) (c4 : s.heap.IsCell (L + 1 + 1 + 1 + 1) none)
    (K : Told txt y (some l) (some tp) (some r) (some b) q) (hl3 : l = 1 ∨ l = 26 ∨ l = 701) (q1 : l ≤ r) (q2 : r < l + 4) (hb1 : 1 ≤ tp) (q3 : tp ≤ b) (q4 : b < tp + 4) (hb4 : b ≤ 15)
    (j75 : J75 s.heap) (j80 : J80 s.heap) (hg : AllBare s.gens) (hL : @LE.le Nat _ 133 L) (hbl : @LT.lt Nat _ bm L)
    (ret : ∀ h' tk gs v, Ex [L + 1 + 1 + 1 + 1, 75, 80] s.heap h' → h'.IsCell (L + 1 + 1 + 1 + 1) v → J75 h' → J80 h' → AllBare gs → Q .next { s with heap := h', toks := tk, gens := gs }) :
    wpAny (model PySem.Challenge.rw_ez0208_01.row.prog w) ⟨none, d, fr, gd, u⟩ (execs ((lawBody.drop 10).take 1) (lawEnv L fa cd)) Q FF s := by
  obtain ⟨pn, pa, pq, p0, p1, pb, rt, pc, pd, e⟩ := law_lc
  rw [e]
  clear e
  have lL := ns.lt
  refine wpAny_execs_cons (wpAny_If (wpAny_mono (tst_c F.X F.T ns ek hk) (fun b0 s' q0 => ?_) fun _ _ q => q.elim))
  obtain ⟨rfl, tk0, rfl⟩ := q0
  rw [if_pos rfl]
  refine wpAny_execs_cons (wpAny_Assign_Name (names_c (s := { s with toks := tk0 }) F.X F.T hd hu ns et eb c2 c3 hl3 q1 q2 hb1 q3 q4 hb4 fun B Dn ys h1 tk1 x1 lv hD hl hp => ?_) law_k4)
  dsimp only at x1
  have c41 := cell_ext c4 x1
  refine wpAny_storeName_cell law_k1 law_k2 law_k3 c41 fun h2 c42 s2 => ?_
  dsimp only at s2
  have k2 : Ex [L + 1 + 1 + 1 + 1] h1 h2 := ex_same s2
  have n4 : NoSeq [L + 1 + 1 + 1 + 1] h1 := noseq_cell c41
  have hD2 := seq_kp hD rfl k2 n4
  have hp2 : ∀ (j : Nat) y, ys[j]? = some y → Row1 B (rowT l tp (r + 1 - l).toNat j) y h2 := fun j y hy => row1_kp (hp j y hy) k2 n4
  have kL : ∀ b : Nat, b ≠ L + 4 → ∀ o, s.heap.get? b = some o → h2.get? b = some o := fun b hb o e => k2 b o (fun hm => hb (List.mem_singleton.mp hm)) (x1 b o e)
  have x2 : Ex [L + 1 + 1 + 1 + 1] s.heap h2 := ex_trans (ex_ext x1) k2
  have far4 : Far bm [L + 1 + 1 + 1 + 1] := by
    intro b hb
    rw [List.mem_singleton.mp hb]
    exact ⟨Nat.ne_of_gt (Nat.lt_trans hbl (Nat.lt_of_lt_of_le (Nat.lt_succ_self L) (Nat.le_add_right _ 3))), .inl (Nat.le_trans hL (Nat.le_add_right L 4))⟩
  have F2 := F.ex far4 x2
  have ns2 : h2.Ns L m := ns.at' fun o e => x2 _ o (fun hm => na4 (List.mem_singleton.mp hm)) e
  have c22 : h2.IsCell (L + 1 + 1) (some (.int l tl)) := let ⟨o, a, d⟩ := c2; ⟨o, x2 _ o (fun hm => na2 (List.mem_singleton.mp hm)) a, d⟩
  have c32 : h2.IsCell (L + 1 + 1 + 1) (some (.int r tr)) := let ⟨o, a, d⟩ := c3; ⟨o, x2 _ o (fun hm => na1 (List.mem_singleton.mp hm)) a, d⟩
  have low : ∀ c : Nat, c < 133 → (c : Addr) ∉ [L + 1 + 1 + 1 + 1] := fun c hc hm => by
    have := List.mem_singleton.mp hm
    have h9 : @LE.le Nat _ 133 (L + 1 + 1 + 1 + 1) := Nat.le_trans hL (Nat.le_add_right L 4)
    rw [← this] at h9
    exact Nat.lt_irrefl _ (Nat.lt_of_lt_of_le hc h9)
  have j752 : J75 h2 := by
    obtain ⟨ps, a, t⟩ := j75
    have kk : ∀ c o, c = 77 ∨ c = 75 → _ → _ := fun c o hc z => x2 c o (low c (by rcases hc with rfl | rfl <;> decide)) z
    exact ⟨ps, isCode_at a kk, tableAt_at t kk⟩
  have j802 : J80 h2 := by
    obtain ⟨ps, a, t⟩ := j80
    have kk : ∀ c o, c = 84 ∨ c = 80 → _ → _ := fun c o hc z => x2 c o (low c (by rcases hc with rfl | rfl <;> decide)) z
    exact ⟨ps, isCode_at a kk, tableAt_at t kk⟩
  have hs2 : @LE.le Nat _ 133 h2.objs.size := Nat.le_of_lt (Nat.lt_of_le_of_lt hL ns2.lt)
  have okf : ∀ i j : Nat, i < (b + 1 - tp).toNat → j < (r + 1 - l).toNat → PyData.strOk (cellT (l + (j : Int)) (tp + (i : Int))) = true := fun i j hi hj => cellT_ok (isC_of hl3 (by omega) (by omega)) (by omega) (by omega)
  refine wpAny_execs_cons (wpAny_If (isTrue_or (wpAny_isTrue_Compare1 (rows_comp (s := { s with heap := h2, toks := tk1 }) F2 hd hu ns2 ex K hl3 q1 q2 hb1 q3 q4 hb4 hbm75 j752 hg hs2 fun h3 tk3 gs3 D1 ys1 x3 j3 lt3 hD1 hl1 hp1 hg3 => ?_) (by with_unfolding_all rfl))))
  dsimp only at x3 lt3
  have n75 : NoSeq [75] h2 := let ⟨_, _, t⟩ := j752; noseq_tab t
  have far75 : Far bm [75] := fun b hb => by rw [List.mem_singleton.mp hb]; exact ⟨Ne.symm hbm75, .inr (.inl rfl)⟩
  have F3 := F2.ex far75 x3
  have hD3 := seq_kp hD2 rfl x3 n75
  have hp3 : ∀ (j : Nat) y, ys[j]? = some y → Row1 B (rowT l tp (r + 1 - l).toNat j) y h3 := fun j y hy => row1_kp (hp2 j y hy) x3 n75
  have n75' : ∀ c : Addr, @LE.le Nat _ 133 c → c ∉ [75] := fun c hc hm => by rw [List.mem_singleton.mp hm] at hc; exact absurd hc (by decide)
  have ns3 : h3.Ns L m := ns2.at' fun o e => x3 _ o (n75' L hL) e
  have c23 : h3.IsCell (L + 1 + 1) (some (.int l tl)) := let ⟨o, a, d⟩ := c22; ⟨o, x3 _ o (n75' _ (Nat.le_trans hL (Nat.le_add_right L 2))) a, d⟩
  have c33 : h3.IsCell (L + 1 + 1 + 1) (some (.int r tr)) := let ⟨o, a, d⟩ := c32; ⟨o, x3 _ o (n75' _ (Nat.le_trans hL (Nat.le_add_right L 3))) a, d⟩
  have c43 : h3.IsCell (L + 1 + 1 + 1 + 1) (some (.ref Dn)) := let ⟨o, a, d⟩ := c42; ⟨o, x3 _ o (n75' _ (Nat.le_trans hL (Nat.le_add_right L 4))) a, d⟩
  have j803 : J80 h3 := by
    obtain ⟨ps, a, t⟩ := j802
    have kk : ∀ c o, c = 84 ∨ c = 80 → _ → _ := fun c o hc z => x3 c o (fun hm => by rcases hc with rfl | rfl <;> exact absurd (List.mem_singleton.mp hm) (by decide)) z
    exact ⟨ps, isCode_at a kk, tableAt_at t kk⟩
  refine nm_cell c43 ?_ law_k3 law_k1 law_k2 (by decide)
  obtain ⟨as1, ra1⟩ := reads_rows (n := (b + 1 - tp).toNat) (k := (r + 1 - l).toNat) (f := fun i j => cellT (l + (j : Int)) (tp + (i : Int))) hD1 hl1 hp1
  obtain ⟨as2, ra2⟩ := reads_rows (n := (b + 1 - tp).toNat) (k := (r + 1 - l).toNat) (f := fun i j => cellT (l + (j : Int)) (tp + (i : Int))) hD3 hl hp3
  refine ne_rows okf ra1 ra2 (by dsimp only; omega) (wpAny_truthy_bool ?_)
  rw [if_neg Bool.false_ne_true]
  refine isTrue_or (wpAny_isTrue_Compare1 (cols_comp (s := { s with heap := h3, toks := tk3, gens := gs3 }) F3 hd hu ns3 ex K hl3 q1 q2 hb1 q3 q4 hb4 hbm80 j803 hg3 (Nat.le_of_lt (Nat.lt_of_le_of_lt hL ns3.lt)) fun h4 tk4 gs4 D2 ys2 x4 j4 lt4 hD4 hl4 hp4 hg4 => ?_) (by with_unfolding_all rfl))
  dsimp only at x4 lt4
  have n80 : NoSeq [80] h3 := let ⟨_, _, t⟩ := j803; noseq_tab t
  have far80 : Far bm [80] := fun b hb => by rw [List.mem_singleton.mp hb]; exact ⟨Ne.symm hbm80, .inr (.inr rfl)⟩
  have F4 := F3.ex far80 x4
  have hDn4 := seq_kp hD3 rfl x4 n80
  have hpn4 : ∀ (j : Nat) y, ys[j]? = some y → Row1 0 (rowT l tp (r + 1 - l).toNat j) y h4 := fun j y hy => let ⟨T, vs, n, a, _, g, sv⟩ := row1_kp (hp3 j y hy) x4 n80; ⟨T, vs, n, a, Nat.zero_le _, g, sv⟩
  have n80' : ∀ c : Addr, @LE.le Nat _ 133 c → c ∉ [80] := fun c hc hm => by rw [List.mem_singleton.mp hm] at hc; exact absurd hc (by decide)
  have c24 : h4.IsCell (L + 1 + 1) (some (.int l tl)) := let ⟨o, a, d⟩ := c23; ⟨o, x4 _ o (n80' _ (Nat.le_trans hL (Nat.le_add_right L 2))) a, d⟩
  have c34 : h4.IsCell (L + 1 + 1 + 1) (some (.int r tr)) := let ⟨o, a, d⟩ := c33; ⟨o, x4 _ o (n80' _ (Nat.le_trans hL (Nat.le_add_right L 3))) a, d⟩
  have c44 : h4.IsCell (L + 1 + 1 + 1 + 1) (some (.ref Dn)) := let ⟨o, a, d⟩ := c43; ⟨o, x4 _ o (n80' _ (Nat.le_trans hL (Nat.le_add_right L 4))) a, d⟩
  refine turn_c (s := { s with heap := h4, toks := tk4, gens := gs4 }) (Dn := Dn) (tp := tp) (nr := (b + 1 - tp).toNat) (ys := ys) F4.X F4.T hd hu c24 c34 c44 q1 q2 (by omega) ⟨_, hDn4⟩ hl hpn4 fun B5 D5 zs h5 tk5 x5 lv5 hD5 hl5 hp5 => ?_
  dsimp only at x5
  obtain ⟨bs1, rb1⟩ := reads_rows (n := (r + 1 - l).toNat) (k := (b + 1 - tp).toNat) (f := fun i j => cellT (l + (i : Int)) (tp + (j : Int))) (x5 _ _ hD4) hl4 fun j y hy => row1_ext (hp4 j y hy) x5
  obtain ⟨bs2, rb2⟩ := reads_rows (n := (r + 1 - l).toNat) (k := (b + 1 - tp).toNat) (f := fun i j => cellT (l + (i : Int)) (tp + (j : Int))) hD5 hl5 hp5
  refine ne_rows (fun i j hi hj => okf j i hj hi) rb1 rb2 (by dsimp only; omega) (wpAny_truthy_bool ?_)
  rw [if_neg Bool.false_ne_true]
  refine isTrue_or_nil ?_
  rw [if_neg Bool.false_ne_true]
  refine wpAny_execs_nil (wpAny_execs_nil (wpAny_execs_nil ?_))
  have x35 : Ex [L + 1 + 1 + 1 + 1, 75, 80] s.heap h5 := fun c o hc e => x5 c o (x4 c o (fun hm => hc (by rw [List.mem_singleton.mp hm]; simp)) (x3 c o (fun hm => hc (by rw [List.mem_singleton.mp hm]; simp)) (x2 c o (fun hm => hc (by rw [List.mem_singleton.mp hm]; simp)) e)))
  refine ret h5 tk5 gs4 _ x35 (cell_ext c44 x5) ?_ ?_ hg4
  · obtain ⟨ps, a, t⟩ := j3
    have kk : ∀ c o, c = 77 ∨ c = 75 → _ → _ := fun c o hc z => x5 c o (x4 c o (fun hm => by rcases hc with rfl | rfl <;> exact absurd (List.mem_singleton.mp hm) (by decide)) z)
    exact ⟨ps, isCode_at a kk, tableAt_at t kk⟩
  · obtain ⟨ps, a, t⟩ := j4
    exact ⟨ps, a.keeps x5, t.keeps x5⟩
end Mine
end
section
open PySem PySem.W PySem.Calls PySem.Spec PyProof.Rows
set_option Elab.async false
set_option maxRecDepth 100000
set_option maxHeartbeats 1000000
set_option linter.unusedVariables false
set_option linter.unusedSimpArgs false
namespace Mine
theorem fillK31 : PySem.Challenge.rw_ez0208_01 = PySem.Challenge.rw_ez0208_01 → (∀ P, Mine.hd.heap_39 P = Mine.hd.heap_39 P) := by k_fill; intros; rfl
theorem two_tabs {h₀ : Heap} {ps ps' : Array Value} {o o' : Obj} (e : h₀.get? 75 = some o) (e' : h₀.get? 80 = some o') : ∃ h₁ : Heap, (∀ b : Addr, b ≠ 75 → b ≠ 80 → h₁.get? b = h₀.get? b) ∧ h₁.get? 75 = some (tabObj ps) ∧ h₁.get? 80 = some (tabObj ps') ∧ h₁.objs.size = h₀.objs.size := by
  have a1 : (h₀.update 75 fun _ => tabObj ps).get? 75 = some (tabObj ps) := Heap.get?_update_self (fun _ => tabObj ps) e rfl
  have a2 : (h₀.update 75 fun _ => tabObj ps).get? 80 = some o' := (Heap.get?_update_other _ _ (by decide)).trans e'
  refine ⟨(h₀.update 75 fun _ => tabObj ps).update 80 fun _ => tabObj ps', fun b h1 h2 => ?_, ?_, ?_, ?_⟩
  · rw [Heap.get?_update_other _ _ (Ne.symm h2), Heap.get?_update_other _ _ (Ne.symm h1)]
  · rw [Heap.get?_update_other _ _ (by decide)]; exact a1
  · exact Heap.get?_update_self (fun _ => tabObj ps') a2 rfl
  · rw [Heap.size_after_update, Heap.size_after_update]
theorem fR : ∃ dr, (recsOf Mine.hd.view_39).find? (fun e => e.name == Str.ofString "rows_from_range") = some dr := ⟨_, rfl⟩
theorem fC : ∃ dr, (recsOf Mine.hd.view_39).find? (fun e => e.name == Str.ofString "cols_from_range") = some dr := ⟨_, rfl⟩
theorem tR {P : Params} : tabIn (Mine.hd.heap_39 P) (Str.ofString "rows_from_range") = some (77, 75) := rfl
theorem tC {P : Params} : tabIn (Mine.hd.heap_39 P) (Str.ofString "cols_from_range") = some (84, 80) := rfl
theorem k132 {P : Params} : ∃ o, (Mine.hd.heap_39 P).lookup 132 = some o := ⟨_, rfl⟩
theorem law11 : Law11 := by
  intro w mg mb mean d u gd s Q E h₀ L fa D st sl oD cd m ws i x k l tp r b n q t1 t2 tb tt tx tk0 tl tr txt y c1 c2 c3 c4 X T hd hu F N d2 d3 d4 hg hst hst2 hst3 hL K hk0 hk hl3 q1 q2 hb1 q3 q4 hb4 ret
  obtain ⟨bm, ob, hbn, hbne, hbo, hbcl, hbdi, hbda⟩ := T.bmain
  obtain ⟨dr, hdr⟩ := fR
  obtain ⟨dc, hdc⟩ := fC
  obtain ⟨chR, e75⟩ := tab_of T X hdr tR
  obtain ⟨chC, e80⟩ := tab_of T X hdc tC
  have j75 : J75 h₀ := ⟨#[], chR.code e75 trivial, chR.tab e75⟩
  have j80 : J80 h₀ := ⟨#[], chC.code e80 trivial, chC.tab e80⟩
  have hbm75 : bm ≠ 75 := fun z => by rw [z, e75] at hbo; cases hbo; cases hbcl
  have hbm80 : bm ≠ 80 := fun z => by rw [z, e80] at hbo; cases hbo; cases hbcl
  have hsz : @LE.le Nat _ h₀.objs.size L := F.above
  obtain ⟨o132, h132⟩ := k132 (P := w.params)
  have hL133 : @LE.le Nat _ 133 L := Nat.le_trans (Heap.lt_size (X _ _ h132)) hsz
  have hbl : @LT.lt Nat _ bm L := Nat.lt_of_lt_of_le (Heap.lt_size hbo) hsz
  have TR := topRead_of T
  have WFs : WF w.params mg mb bm ob s.heap := ⟨ext_in X F.keep, ext_read TR F.keep, hbn, hbne, F.keep _ _ hbo, hbcl, hbdi, hbda⟩
  have js75 : J75 s.heap := let ⟨ps, a, t⟩ := j75; ⟨ps, a.keeps F.keep, t.keeps F.keep⟩
  have js80 : J80 s.heap := let ⟨ps, a, t⟩ := j80; ⟨ps, a.keeps F.keep, t.keeps F.keep⟩
  have g2 : s.heap.IsCell (L + 1 + 1) (some (.int l tl)) := ⟨c2, (N _ (.tail _ (.tail _ (.tail _ (.tail _ (.tail _ (.head _))))))).1, d2⟩
  have g3 : s.heap.IsCell (L + 1 + 1 + 1) (some (.int r tr)) := ⟨c3, (N _ (.tail _ (.tail _ (.tail _ (.tail _ (.head _)))))).1, d3⟩
  have g4 : s.heap.IsCell (L + 1 + 1 + 1 + 1) none := ⟨c4, (N _ (.tail _ (.tail _ (.tail _ (.head _))))).1, d4⟩
  refine wpAny_mono (law_11v (s := s) WFs hbm75 hbm80 hd hu F.ns (tp := tp) (tt := tt) (b := b) (tb := tb) (txt := txt) (tx := tx) (k := k) (tk := tk0) ((if_neg (by decide)).trans (if_pos rfl)) (if_pos rfl) ((if_neg (by decide)).trans ((if_neg (by decide)).trans (if_pos rfl))) ((if_neg (by decide)).trans ((if_neg (by decide)).trans ((if_neg (by decide)).trans (if_pos rfl)))) hk g2 g3 g4 K hl3 q1 q2 hb1 q3 q4 hb4 js75 js80 (.of_eq hg) hL133 hbl fun h' tk gs v ex4 ck4 jf75 jf80 hgs => ?_) (fun _ _ q => q) (fun _ _ q => q.elim)
  obtain ⟨o4, eo4, do4⟩ := ck4
  obtain ⟨ps, ca, ta⟩ := jf75
  obtain ⟨ps', cb, tb'⟩ := jf80
  obtain ⟨h₁, k1, k75, k80, ksz⟩ := two_tabs (ps := ps) (ps' := ps') e75 e80
  have up : ∀ b o, b ≠ 75 → b ≠ 80 → h₀.get? b = some o → h₁.get? b = some o := fun b o n1 n2 e => (k1 b n1 n2).trans e
  have ex01 : Ex [75, 80] h₀ h₁ := fun b o hb e => up b o (fun z => hb (by rw [z]; simp)) (fun z => hb (by rw [z]; simp)) e
  have far : Far bm [75, 80] := by
    intro b hb
    simp only [List.mem_cons, List.not_mem_nil, or_false] at hb
    rcases hb with rfl | rfl
    · exact ⟨Ne.symm hbm75, .inr (.inl rfl)⟩
    · exact ⟨Ne.symm hbm80, .inr (.inr rfl)⟩
  have nsAt : ∀ {a : Addr} {mm : Str → Option Value}, h₀.Ns a mm → h₁.Ns a mm := fun x => x.at' fun o e => up _ o (fun z => by
      obtain ⟨o', _, _, e', dd, _⟩ := x
      rw [z, e75] at e'; cases e'; cases dd) (fun z => by
      obtain ⟨o', _, _, e', dd, _⟩ := x
      rw [z, e80] at e'; cases e'; cases dd) e
  refine ret h₁ h' tk gs o4 topProg (LO ++ (recsOf Mine.hd.view_39).map (·.name) ++ (litsOf Mine.hd.view_39).map (·.1) ++ (clssOf Mine.hd.view_39 LO).map (·.name)) (in_ex X far ex01) (read_ex TR far ex01) ?top ?old (Nat.le_trans (Nat.le_of_eq ksz) hsz) ?fr ?news hgs
  case top =>
    exact {
      g := nsAt T.g
      b := nsAt T.b
      nolimit := let ⟨mc, a, z⟩ := T.nolimit; ⟨mc, nsAt a, z⟩
      nodigits := let ⟨mc, a, z⟩ := T.nodigits; ⟨mc, nsAt a, z⟩
      fn := fun d hd => absurd (show d ∈ ([] : List DefRec) from hd) List.not_mem_nil
      own := fun o ho => absurd (show o ∈ ([] : List OwnSpec) from ho) List.not_mem_nil
      const := fun x d e => by cases (show (none : Option PyData) = some d from e)
      free := fun x h1 h2 _ _ _ => T.free x h1 (fun q => h2 (List.mem_append_left _ (List.mem_append_left _ (List.mem_append_left _ q))))
        (fun q => h2 (List.mem_append_left _ (List.mem_append_left _ (List.mem_append_right _ q)))) (fun q => h2 (List.mem_append_left _ (List.mem_append_right _ q))) fun q => h2 (List.mem_append_right _ q)
      builtins := T.builtins
      tab := fun d hd => absurd (show d ∈ ([] : List DefRec) from hd) List.not_mem_nil
      bmain := ⟨bm, ob, hbn, hbne, up _ _ hbm75 hbm80 hbo, hbcl, hbdi, hbda⟩
      seer := fun e => absurd (show false = true from e) Bool.false_ne_true }
  case old =>
    refine ⟨fun b o e => ?_, fun b o e => ?_⟩
    · by_cases h75 : b = 75
      · subst h75
        rw [e75] at e; cases e
        exact .inr (.inl ⟨(chR.tab e75).isCodeTable, rfl, #[], ps, rfl, by rw [Array.empty_append]; exact k75⟩)
      · by_cases h80 : b = 80
        · subst h80
          rw [e80] at e; cases e
          exact .inr (.inl ⟨(chC.tab e80).isCodeTable, rfl, #[], ps', rfl, by rw [Array.empty_append]; exact k80⟩)
        · exact .inl (up b o h75 h80 e)
    · by_cases h75 : b = 75
      · exact ⟨_, h75 ▸ k75⟩
      · by_cases h80 : b = 80
        · exact ⟨_, h80 ▸ k80⟩
        · exact ⟨o, up b o h75 h80 e⟩
  case fr =>
    have nL : L ∉ [L + 1 + 1 + 1 + 1, 75, 80] := fun hm => by
      simp only [List.mem_cons, List.not_mem_nil, or_false] at hm
      rcases hm with z | z | z
      · exact na4 z
      · rw [z] at hL133; exact absurd hL133 (by decide)
      · rw [z] at hL133; exact absurd hL133 (by decide)
    refine ⟨F.ns.at' fun o e => ex4 _ o nL e, fun c o e => ?_, Nat.le_trans (Nat.le_of_eq ksz) hsz⟩
    by_cases h75 : c = 75
    · subst h75; rw [k75] at e; cases e; exact ta.2
    · by_cases h80 : c = 80
      · subst h80; rw [k80] at e; cases e; exact tb'.2
      · rw [k1 c h75 h80] at e
        have cl : @LT.lt Nat _ c L := Nat.lt_of_lt_of_le (Heap.lt_size e) hsz
        refine ex4 c o (fun hm => ?_) (F.keep c o e)
        simp only [List.mem_cons, List.not_mem_nil, or_false] at hm
        rcases hm with z | z | z
        · rw [z] at cl; exact Nat.lt_irrefl _ (Nat.lt_of_le_of_lt (Nat.le_add_right L 4) cl)
        · exact h75 z
        · exact h80 z
  case news =>
    have gen : ∀ c o, c ≠ L + 1 + 1 + 1 + 1 → s.heap.get? c = some o ∧ c ≠ L ∧ h₀.get? c = none → h'.get? c = some o ∧ c ≠ L ∧ h₁.get? c = none := fun c o nc ⟨e1, e2, e3⟩ => by
      have n75 : c ≠ 75 := fun z => by rw [z, e75] at e3; cases e3
      have n80 : c ≠ 80 := fun z => by rw [z, e80] at e3; cases e3
      refine ⟨ex4 c o (fun hm => ?_) e1, e2, (k1 c n75 n80).trans e3⟩
      simp only [List.mem_cons, List.not_mem_nil, or_false] at hm
      rcases hm with z | z | z
      · exact nc z
      · exact n75 z
      · exact n80 z
    have n4 := N _ (.tail _ (.tail _ (.tail _ (.head _))))
    intro p hp
    rcases List.mem_cons.mp hp with rfl | hp
    · exact gen _ _ (Nat.ne_of_gt (Nat.lt_trans hst hst2)) (N _ (.tail _ (.head _)))
    rcases List.mem_cons.mp hp with rfl | hp
    · exact gen _ _ (Nat.ne_of_gt hst) (N _ (.tail _ (.tail _ (.head _))))
    rcases List.mem_cons.mp hp with rfl | hp
    · have n75 : (L + 1 + 1 + 1 + 1 : Addr) ≠ 75 := fun z => by rw [z, e75] at n4; cases n4.2.2
      have n80 : (L + 1 + 1 + 1 + 1 : Addr) ≠ 80 := fun z => by rw [z, e80] at n4; cases n4.2.2
      exact ⟨eo4, n4.2.1, (k1 _ n75 n80).trans n4.2.2⟩
    rcases List.mem_cons.mp hp with rfl | hp
    · exact gen _ _ na1 (N _ (.tail _ (.tail _ (.tail _ (.tail _ (.head _))))))
    rcases List.mem_cons.mp hp with rfl | hp
    · exact gen _ _ na2 (N _ (.tail _ (.tail _ (.tail _ (.tail _ (.tail _ (.head _)))))))
    rcases List.mem_cons.mp hp with rfl | hp
    · exact gen _ _ na3 (N _ (.tail _ (.tail _ (.tail _ (.tail _ (.tail _ (.tail _ (.head _))))))))
    · cases hp
end Mine
end
theorem PySem.Challenge.cw_ez0208_01_holds : PySem.Challenge.rw_ez0208_01.Holds :=
  Mine.law_holds Mine.law11
