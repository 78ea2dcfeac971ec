import PyProof.Rows.All
import Wide.All
import OpenK.AllK
import Wide.FinOn
import PySem.Challenge.RW_wb0014_01
set_option maxRecDepth 100000
set_option Elab.async false
namespace Mine
-- part Hd
section
open PySem PySem.W PyProof.Rows
set_option maxHeartbeats 8000000 in
open_top hd for PySem.Challenge.rw_wb0014_01
end
-- part HO
section
/-- what stops the walk -/
def Hold (P : Prop) : Prop := P
theorem Hold.out {P : Prop} (h : Hold P) : P := h
end
-- part LB
section
open PySem PySem.Calls PyProof.Rows PySem.W
noncomputable def lastOf : List Stmt → Option Stmt
  | [] => none
  | s :: r => match r with
    | [] => some s
    | _ :: _ => lastOf r
noncomputable def lawDef : Option Stmt := lastOf PySem.Challenge.pw_wb0014_01.main.body
noncomputable def lawBody : List Stmt := match lawDef with | some (.FunctionDef _ _ b _ _ _ _ _ _ _) => b | _ => []
noncomputable def lawScope : Scope := match lawDef with | some (.FunctionDef _ _ _ _ _ _ sc _ _ _) => sc | _ => { kind := .function, names := [], isGenerator := false, isCoroutine := false, more := [] }
/-- a share's figures in threes -/
structure Digs (a d0 d1 d2 d3 : Int) : Prop where
  z0 : 0 ≤ d0 ∧ d0 ≤ 2
  z1 : 0 ≤ d1 ∧ d1 ≤ 2
  z2 : 0 ≤ d2 ∧ d2 ≤ 2
  z3 : d3 = 0
  e : a = d0 + 3 * d1 + 9 * d2
theorem digs_of {a : Int} (h : 0 ≤ a ∧ a < 27) : Digs a ((a.fdiv 1).fmod 3) ((a.fdiv 3).fmod 3) ((a.fdiv 9).fmod 3) ((a.fdiv 27).fmod 3) := by
  have e1 : ∀ k : Int, 0 ≤ k → (a.fdiv k).fmod 3 = (a / k) % 3 := fun k hk => by rw [Int.fdiv_eq_ediv_of_nonneg _ hk, Int.fmod_eq_emod_of_nonneg _ (by decide)]
  rw [e1 1 (by decide), e1 3 (by decide), e1 9 (by decide), e1 27 (by decide)]
  constructor <;> omega
end
-- part R1
section
open PySem hiding Frame Kept Step run
open PySem.Sre
/-- the pattern's words, as the heap's tuple holds them -/
def rc : Array Nat := #[14, 8, 1, 13, 4294967295, 1, 1, 32, 0, 16, 32, 40, 97, 40, 116, 16, 32, 16, 48, 40, 120, 24, 13, 6, 16, 39, 8, 22, 48, 57, 22, 97, 102, 0, 1, 17, 0, 24, 6, 1, 4294967295, 16, 62, 1, 17, 1, 6, 5, 1]
/-- a search's state; what the proof does not look at stands open -/
structure S where
  start : Nat
  pc : Nat
  pos : Nat
  handed : Nat
  outermost : Bool
  marks : Array (Option Nat)
  lastmark : Int
  lastindex : Int
  frames : List Frame
  answer : Option Bool
  seen : Seen
def S.m (T : Array Nat) (x : S) : M :=
  { code := rc, text := T, lim := T.size, start := x.start, lastStart := T.size, pc := x.pc, pos := x.pos, handed := x.handed, outermost := x.outermost,
    marks := x.marks, lastmark := x.lastmark, lastindex := x.lastindex, frames := x.frames, weight := x.frames.length, answer := x.answer, seen := x.seen }
/-- m comes to m' -/
def To (n : Nat) (m m' : M) : Prop := ∃ k, k ≤ n ∧ ∀ r, M.runFor (k + r) m = M.runFor r m'
theorem To.refl (m : M) : To 0 m m := ⟨0, Nat.le_refl _, fun r => by rw [Nat.zero_add]⟩
theorem To.trans {n n' : Nat} {a b c : M} (h : To n a b) (g : To n' b c) : To (n + n') a c := by
  obtain ⟨k, hk, e⟩ := h
  obtain ⟨l, hl, e'⟩ := g
  exact ⟨k + l, by omega, fun r => by rw [Nat.add_assoc, e, e']⟩
theorem To.step {n : Nat} {a b c : M} (h : a.step = b) (ho : a.outcome = none) (g : To n b c) : To (n + 1) a c := by
  obtain ⟨l, hl, e'⟩ := g
  refine ⟨l + 1, by omega, fun r => ?_⟩
  rw [show l + 1 + r = (l + r) + 1 by omega, M.runFor, ho, h]; exact e' r
theorem To.mono {n n' : Nat} {a b : M} (h : To n a b) (le : n ≤ n') : To n' a b := by
  obtain ⟨k, hk, e⟩ := h
  exact ⟨k, by omega, e⟩
def hexc (c : Nat) : Bool := (48 ≤ c && c ≤ 57) || (97 ≤ c && c ≤ 102)
/-- the texts' signs -/
def okc (c : Nat) : Bool := hexc c || c == 32 || c == 60 || c == 62 || c == 97 || c == 116 || c == 120
theorem okc_lt {c : Nat} (h : okc c = true) : c < 128 := by
  simp only [okc, hexc, Bool.or_eq_true, Bool.and_eq_true, decide_eq_true_eq, beq_iff_eq] at h
  omega
theorem low_all : ∀ c : Fin 128, okc c.1 = true → Unicode.simpleLower c.1 = c.1 := by decide +kernel
theorem low {c : Nat} (h : okc c = true) : lowerUni c = c := low_all ⟨c, okc_lt h⟩ h
theorem op16 : ops[16]? = some .LITERAL := rfl
theorem op40 : ops[40]? = some .LITERAL_UNI_IGNORE := rfl
theorem op24 : ops[24]? = some .REPEAT_ONE := rfl
theorem op17 : ops[17]? = some .MARK := rfl
theorem op6 : ops[6]? = some .AT := rfl
theorem op1 : ops[1]? = some .SUCCESS := rfl
section
variable {m : M} {f : Frame} {sn : Seen} {n : Nat}
theorem step_exec (ho : m.outcome = none) (ha : m.answer = none) (hz : m.pc < m.code.size) : m.step = m.exec := by
  unfold M.step
  rw [ho, ha]
  exact if_pos hz
theorem step_resume {yes : Bool} {r : List Frame} (ho : m.outcome = none) (ha : m.answer = some yes) (hf : m.frames = f :: r) :
    m.step = M.resume { m with answer := none, frames := r, weight := m.weight - (1 + f.kept.marks.size), pc := f.pc, pos := f.pos, outermost := f.outermost } f yes := by
  unfold M.step
  rw [ho, ha, hf]
  exact if_neg Bool.false_ne_true
theorem exec_full (hw : ops[m.word 0]? = some .LITERAL ∨ ops[m.word 0]? = some .LITERAL_UNI_IGNORE) (hp : m.pos ≥ m.lim) : m.exec = ({ m with seen := m.seen.add (m.word 0) } : M).say false := by
  unfold M.exec
  rcases hw with hw | hw
  · rw [hw]; exact if_pos hp
  · rw [hw]; exact if_pos hp
theorem exec_lit {b : Bool} (hw : ops[m.word 0]? = some .LITERAL ∨ ops[m.word 0]? = some .LITERAL_UNI_IGNORE) (hp : ¬ m.pos ≥ m.lim) (hc : accepts m.code m.pc (m.text.getD m.pos 0) (m.seen.add (m.word 0)) = .ok (b, sn)) :
    m.exec = if b = true then { m with seen := sn, pc := m.pc + itemWidth m.code m.pc, pos := m.pos + 1 } else ({ m with seen := sn } : M).say false := by
  unfold M.exec
  rcases hw with hw | hw
  · rw [hw]; refine (if_neg hp).trans ?_; rw [hc]; cases b <;> rfl
  · rw [hw]; refine (if_neg hp).trans ?_; rw [hc]; cases b <;> rfl
theorem exec_short (hw : ops[m.word 0]? = some .REPEAT_ONE) (hr : (m.word 2 : Int) > (m.lim : Int) - m.pos) : m.exec = ({ m with seen := m.seen.add (m.word 0) } : M).say false := by
  unfold M.exec
  rw [hw]; exact if_pos hr
theorem exec_few (hw : ops[m.word 0]? = some .REPEAT_ONE) (hr : ¬ (m.word 2 : Int) > (m.lim : Int) - m.pos)
    (hc : run m.code m.text (m.pc + 4) (min (m.word 3) ((m.lim : Int) - m.pos).toNat) m.pos 0 ((m.seen.add (m.word 0)).add (m.word 4)) = .ok (n, sn)) (hn : n < m.word 2) : m.exec = ({ m with seen := sn } : M).say false := by
  unfold M.exec
  rw [hw]; refine (if_neg hr).trans ?_
  show (match run m.code m.text (m.pc + 4) (min (m.word 3) ((m.lim : Int) - m.pos).toNat) m.pos 0 ((m.seen.add (m.word 0)).add (m.word 4)) with | .error why => _ | .ok (_, _) => _) = _
  rw [hc]; exact if_pos hn
theorem exec_rep (hw : ops[m.word 0]? = some .REPEAT_ONE) (hr : ¬ (m.word 2 : Int) > (m.lim : Int) - m.pos)
    (hc : run m.code m.text (m.pc + 4) (min (m.word 3) ((m.lim : Int) - m.pos).toNat) m.pos 0 ((m.seen.add (m.word 0)).add (m.word 4)) = .ok (n, sn)) (hn : ¬ n < m.word 2) :
    m.exec = ({ m with seen := sn, pos := m.pos + n } : M).afterRun .giveBack n (m.keep m.inner.isSome) := by
  unfold M.exec
  rw [hw]; refine (if_neg hr).trans ?_
  show (match run m.code m.text (m.pc + 4) (min (m.word 3) ((m.lim : Int) - m.pos).toNat) m.pos 0 ((m.seen.add (m.word 0)).add (m.word 4)) with | .error why => _ | .ok (_, _) => _) = _
  rw [hc]; exact if_neg hn
theorem exec_mark (hw : ops[m.word 0]? = some .MARK) : m.exec = ({ m with seen := m.seen.add (m.word 0) } : M).mark (m.word 1) := by
  unfold M.exec
  rw [hw]; rfl
theorem exec_at {yes : Bool} (hw : ops[m.word 0]? = some .AT) (hy : M.isAt { m with seen := m.seen.add (m.word 0) } (m.word 1) = .ok yes) :
    m.exec = if yes = true then { m with seen := (m.seen.add (m.word 0)).add (43 + m.word 1), pc := m.pc + 2 } else ({ m with seen := (m.seen.add (m.word 0)).add (43 + m.word 1) } : M).say false := by
  unfold M.exec
  rw [hw]
  show (match M.isAt { m with seen := m.seen.add (m.word 0) } (m.word 1) with | .error why => _ | .ok _ => _) = _
  rw [hy]; cases yes <;> rfl
theorem exec_success (hw : ops[m.word 0]? = some .SUCCESS) (h : (m.outermost && ((m.wholeText && m.pos != m.lim) || (m.mustAdvance && m.pos == m.start))) = false) : m.exec = ({ m with seen := m.seen.add (m.word 0), handed := m.pos } : M).say true := by
  unfold M.exec
  rw [hw]
  exact if_neg (by rw [h]; exact Bool.false_ne_true)
theorem isAt5 : m.isAt 5 = .ok (m.pos == m.lim || (m.pos + 1 == m.lim && m.text.getD m.pos 0 == 10)) := rfl
theorem resume_yes (hw : f.wait = .giveBack ∨ f.wait = .nextStart) : M.resume m f true = m.say true := by
  unfold M.resume
  rcases hw with hw | hw
  · rw [hw]; rfl
  · rw [hw]; rfl
theorem resume_next (hw : f.wait = .nextStart) (h : f.pos < m.lastStart) : M.resume m f false = ({ m with mustAdvance := false } : M).attemptFrom (f.pos + 1) false := by
  unfold M.resume
  rw [hw]; exact (if_neg Bool.false_ne_true).trans (if_pos h)
theorem resume_last (hw : f.wait = .nextStart) (h : ¬ f.pos < m.lastStart) : M.resume m f false = m.say false := by
  unfold M.resume
  rw [hw]; exact (if_neg Bool.false_ne_true).trans (if_neg h)
theorem resume_low (hw : f.wait = .giveBack) (h : f.count - 1 < m.word 2) : M.resume m f false = (m.putBack f.kept).say false := by
  unfold M.resume
  rw [hw]; exact (if_neg Bool.false_ne_true).trans (if_pos h)
theorem resume_back (hw : f.wait = .giveBack) (h : ¬ f.count - 1 < m.word 2) : M.resume m f false = ({ m.putBack f.kept with pos := f.pos - 1 } : M).afterRun .giveBack (f.count - 1) f.kept := by
  unfold M.resume
  rw [hw]; exact (if_neg Bool.false_ne_true).trans (if_neg h)
theorem from_at {s : Nat} {b : Bool} (h : m.code = rc) : m.attemptFrom s b = m.attemptAt s b := by
  have : m.hasFirstSet = false := by unfold M.hasFirstSet; rw [h]; rfl
  unfold M.attemptFrom
  rw [this]; rfl
end
section
variable {T : Array Nat}
/-- one sign that stands as asked -/
theorem lit_ok {x : S} {c : Nat} (hw : rc.getD x.pc 0 = 16 ∨ rc.getD x.pc 0 = 40) (hc : rc.getD (x.pc + 1) 0 = c) (hq : x.pc < 49) (ha : x.answer = none) (hp : x.pos < T.size) (ht : T.getD x.pos 0 = c) (hok : okc c = true) :
    ∃ sn, (x.m T).step = ({ x with pc := x.pc + 2, pos := x.pos + 1, seen := sn } : S).m T := by
  have hz : x.pc < rc.size := hq
  have hp' : ¬ (x.pos ≥ T.size) := by omega
  have key : ∀ sn : Seen, (ops[(x.m T).word 0]? = some .LITERAL ∨ ops[(x.m T).word 0]? = some .LITERAL_UNI_IGNORE) → accepts rc x.pc (T.getD x.pos 0) (x.seen.add ((x.m T).word 0)) = .ok (true, sn) → itemWidth rc x.pc = 2 → ∃ sn, (x.m T).step = ({ x with pc := x.pc + 2, pos := x.pos + 1, seen := sn } : S).m T := by
    intro sn h1 h2 h3
    refine ⟨sn, (step_exec (m := x.m T) rfl ha hz).trans ((exec_lit h1 hp' h2).trans ((if_pos rfl).trans ?_))⟩
    show ({ x.m T with seen := sn, pc := x.pc + itemWidth rc x.pc, pos := x.pos + 1 } : M) = _
    rw [h3]; rfl
  have w0 : (x.m T).word 0 = rc.getD x.pc 0 := rfl
  rcases hw with hw | hw
  · exact key (x.seen.add ((x.m T).word 0)) (.inl (by rw [w0, hw]; rfl)) (by simp only [accepts, hw, op16, hc, ht, BEq.rfl]) (by simp only [itemWidth, hw, op16])
  · exact key (x.seen.add ((x.m T).word 0)) (.inr (by rw [w0, hw]; rfl)) (by simp only [accepts, hw, op40, hc, ht, low hok, BEq.rfl]) (by simp only [itemWidth, hw, op40])
/-- one sign that stands otherwise -/
theorem lit_no {x : S} {c : Nat} (hw : rc.getD x.pc 0 = 16 ∨ rc.getD x.pc 0 = 40) (hc : rc.getD (x.pc + 1) 0 = c) (hq : x.pc < 49) (ha : x.answer = none) (ht : ∀ h : x.pos < T.size, T.getD x.pos 0 ≠ c ∧ okc (T.getD x.pos 0) = true) :
    ∃ sn, (x.m T).step = ({ x with answer := some false, seen := sn } : S).m T := by
  have hz : x.pc < rc.size := hq
  have w0 : (x.m T).word 0 = rc.getD x.pc 0 := rfl
  have hop : ops[(x.m T).word 0]? = some .LITERAL ∨ ops[(x.m T).word 0]? = some .LITERAL_UNI_IGNORE := by
    rcases hw with hw | hw
    · exact .inl (by rw [w0, hw]; rfl)
    · exact .inr (by rw [w0, hw]; rfl)
  by_cases hp : x.pos ≥ T.size
  · exact ⟨_, (step_exec (m := x.m T) rfl ha hz).trans ((exec_full hop hp).trans rfl)⟩
  · obtain ⟨h1, h2⟩ := ht (by omega)
    have h1' : (T.getD x.pos 0 == c) = false := beq_eq_false_iff_ne.mpr h1
    have hac : accepts rc x.pc (T.getD x.pos 0) (x.seen.add ((x.m T).word 0)) = .ok (false, x.seen.add ((x.m T).word 0)) := by
      rcases hw with hw | hw
      · simp only [accepts, hw, op16, hc, h1']
      · simp only [accepts, hw, op40, hc, low h2, h1']
    exact ⟨_, (step_exec (m := x.m T) rfl ha hz).trans ((exec_lit hop hp hac).trans ((if_neg Bool.false_ne_true).trans rfl))⟩
abbrev nsF (s : Nat) (f : Bool) : Frame := { wait := .nextStart, pc := 9, pos := s, outermost := f }
/-- a start's state -/
def A (s : Nat) (f : Bool) (mk : Array (Option Nat)) (sn : Seen) : S :=
  { start := s, pc := 9, pos := s, handed := s, outermost := f, marks := mk, lastmark := -1, lastindex := -1, frames := [nsF s f], answer := none, seen := sn }
theorem putBack_S (x : S) (k : Kept) (hk : k.whole = false) : M.putBack (x.m T) k = ({ x with lastmark := k.lastmark, lastindex := k.lastindex } : S).m T := by
  simp only [M.putBack, S.m, hk, Bool.false_eq_true, if_false]
/-- no start here: the next one -/
theorem next_start {x : S} {s : Nat} {f : Bool} (hf : x.frames = [nsF s f]) (ha : x.answer = some false) (hs : s < T.size) :
    (x.m T).step = (A (s + 1) false x.marks x.seen).m T := by
  obtain ⟨start, pc, pos, handed, outermost, marks, lastmark, lastindex, frames, answer, seen⟩ := x
  simp only at hf ha
  subst hf ha
  exact (step_resume rfl rfl rfl).trans ((resume_next rfl hs).trans ((from_at rfl).trans rfl))
/-- no start is left -/
theorem no_start {x : S} {s : Nat} {f : Bool} (hf : x.frames = [nsF s f]) (ha : x.answer = some false) (hs : ¬ s < T.size) :
    ∃ y : S, y.frames = [] ∧ y.answer = some false ∧ (x.m T).step = y.m T := by
  obtain ⟨start, pc, pos, handed, outermost, marks, lastmark, lastindex, frames, answer, seen⟩ := x
  simp only at hf ha
  subst hf ha
  exact ⟨⟨start, 9, s, handed, f, marks, lastmark, lastindex, [], some false, seen⟩, rfl, rfl, (step_resume rfl rfl rfl).trans ((resume_last rfl hs).trans rfl)⟩
/-- how many of the n signs from p on are as b asks -/
noncomputable def runOf (b : Nat → Bool) (T : Array Nat) : Nat → Nat → Nat
  | 0, _ => 0
  | n + 1, p => if b (T.getD p 0) then runOf b T n (p + 1) + 1 else 0
theorem runOf_le (b : Nat → Bool) (T : Array Nat) : ∀ n p, runOf b T n p ≤ n
  | 0, _ => Nat.le_refl _
  | n + 1, p => by
    have := runOf_le b T n (p + 1)
    rw [runOf]; split <;> omega
theorem hex_item (c : Nat) (sn : Seen) (h : okc c = true) : ∃ sn', accepts rc 25 c sn = .ok (hexc c, sn') := by
  have w0 : rc.getD 25 0 = 39 := rfl
  have ho : ops[39]? = some .IN_UNI_IGNORE := rfl
  have w1 : rc.getD 27 0 = 22 := rfl
  have w2 : rc.getD 28 0 = 48 := rfl
  have w3 : rc.getD 29 0 = 57 := rfl
  have w4 : rc.getD 30 0 = 22 := rfl
  have w5 : rc.getD 31 0 = 97 := rfl
  have w6 : rc.getD 32 0 = 102 := rfl
  have w7 : rc.getD 33 0 = 0 := rfl
  have o22 : ops[22]? = some .RANGE := rfl
  have o0 : ops[0]? = some .FAILURE := rfl
  have hz : rc.size = 46 + 3 := rfl
  simp only [accepts, w0, ho, low h, hz, inSet, Nat.reduceAdd, w1, w2, w3, w4, w5, w6, w7, o22, o0, hexc]
  by_cases h1 : (48 ≤ c && c ≤ 57) = true
  · rw [if_pos h1]; simp only [h1, Bool.true_or]; exact ⟨_, rfl⟩
  · rw [if_neg h1]
    by_cases h2 : (97 ≤ c && c ≤ 102) = true
    · rw [if_pos h2]; simp only [h2, Bool.or_true]; exact ⟨_, rfl⟩
    · rw [if_neg h2]
      simp only [Bool.not_eq_true] at h1 h2
      simp only [h1, h2, Bool.or_self, Bool.not_true]; exact ⟨_, rfl⟩
theorem gt_item (c : Nat) (sn : Seen) : accepts rc 41 c sn = .ok (c == 62, sn) := rfl
theorem run_hex (hT : ∀ p, p < T.size → okc (T.getD p 0) = true) : ∀ n p found sn, p + n ≤ T.size → ∃ sn', run rc T 25 n p found sn = .ok (found + runOf hexc T n p, sn')
  | 0, p, found, sn, _ => ⟨sn, rfl⟩
  | n + 1, p, found, sn, h => by
    obtain ⟨s1, h1⟩ := hex_item (T.getD p 0) sn (hT p (by omega))
    rw [run, h1]
    show ∃ sn', (if hexc (T.getD p 0) = true then run rc T 25 n (p + 1) (found + 1) s1 else pure (found, s1)) = _
    rw [runOf]
    split
    · obtain ⟨s2, h2⟩ := run_hex hT n (p + 1) (found + 1) s1 (by omega)
      exact ⟨s2, by rw [h2]; congr 2; omega⟩
    · exact ⟨s1, rfl⟩
theorem run_gt : ∀ n p found sn, run rc T 41 n p found sn = .ok (found + runOf (· == 62) T n p, sn)
  | 0, p, found, sn => rfl
  | n + 1, p, found, sn => by
    rw [run, gt_item]
    show (if (T.getD p 0 == 62) = true then run rc T 41 n (p + 1) (found + 1) sn else pure (found, sn)) = _
    rw [runOf]
    split
    · rw [run_gt n (p + 1) (found + 1) sn]; congr 2; omega
    · rfl
abbrev hF (s : Nat) (f : Bool) (c : Nat) : Frame := { wait := .giveBack, pc := 21, pos := s + 6 + c, outermost := f, count := (c : Int), kept := { lastmark := -1, lastindex := -1, whole := false, marks := #[] } }
abbrev gF (p : Nat) (f : Bool) (e : Nat) : Frame := { wait := .giveBack, pc := 37, pos := p + e, outermost := f, count := (e : Int), kept := { lastmark := 0, lastindex := -1, whole := false, marks := #[] } }
/-- c hex signs are taken -/
def B (s : Nat) (f : Bool) (c : Nat) (mk : Array (Option Nat)) (sn : Seen) : S :=
  { start := s, pc := 35, pos := s + 6 + c, handed := s + 6 + c, outermost := f, marks := mk, lastmark := -1, lastindex := -1, frames := [hF s f c, nsF s f], answer := none, seen := sn }
/-- and e brackets behind them -/
def D (s : Nat) (f : Bool) (c e : Nat) (mk : Array (Option Nat)) (sn : Seen) : S :=
  { start := s, pc := 44, pos := s + 6 + c + e, handed := s + 6 + c + e, outermost := f, marks := mk, lastmark := 0, lastindex := -1, frames := [gF (s + 6 + c) f e, hF s f c, nsF s f], answer := none, seen := sn }
noncomputable abbrev hexAt (T : Array Nat) (p : Nat) : Nat := runOf hexc T (min 16 (T.size - p)) p
noncomputable abbrev gtAt (T : Array Nat) (p : Nat) : Nat := runOf (· == 62) T (min 4294967295 (T.size - p)) p
theorem rep_hex (hT : ∀ p, p < T.size → okc (T.getD p 0) = true) {s : Nat} {f : Bool} {x : S} (hpc : x.pc = 21) (hpos : x.pos = s + 6) (ha : x.answer = none) (hf : x.frames = [nsF s f]) (hs : x.start = s) (ho : x.outermost = f)
    (hl : x.lastmark = -1) (hi : x.lastindex = -1) (hp : s + 6 ≤ T.size) :
    (6 ≤ hexAt T (s + 6) ∧ ∃ sn, (x.m T).step = (B s f (hexAt T (s + 6)) x.marks sn).m T) ∨
      (hexAt T (s + 6) < 6 ∧ ∃ y : S, y.frames = [nsF s f] ∧ y.answer = some false ∧ y.marks = x.marks ∧ (x.m T).step = y.m T) := by
  have hz : 21 < rc.size := by decide
  have hle := runOf_le hexc T (min 16 (T.size - (s + 6))) (s + 6)
  have hroom : ((T.size : Int) - ((s + 6 : Nat) : Int)).toNat = T.size - (s + 6) := by omega
  obtain ⟨start, pc, pos, handed, outermost, marks, lastmark, lastindex, frames, answer, seen⟩ := x
  simp only at hpc hpos ha hf hs ho hl hi
  subst hpc hpos ha hf hs ho hl hi
  by_cases hr : ((6 : Nat) : Int) > (T.size : Int) - ((start + 6 : Nat) : Int)
  · refine .inr ⟨by show hexAt T (start + 6) < 6; unfold hexAt; omega, ⟨start, 21, start + 6, handed, outermost, marks, -1, -1, [nsF start outermost], some false, seen.add 24⟩, rfl, rfl, rfl, ?_⟩
    exact (step_exec rfl rfl hz).trans ((exec_short rfl hr).trans rfl)
  · obtain ⟨sn, hrun⟩ := run_hex hT (min 16 (T.size - (start + 6))) (start + 6) 0 ((seen.add 24).add 39) (by omega)
    rw [Nat.zero_add, ← hroom] at hrun
    by_cases h6 : 6 ≤ hexAt T (start + 6)
    · refine .inl ⟨h6, sn, ?_⟩
      have h6' : ¬ runOf hexc T (min 16 ((T.size : Int) - ((start + 6 : Nat) : Int)).toNat) (start + 6) < 6 := by rw [hroom]; unfold hexAt at h6; omega
      refine (step_exec rfl rfl hz).trans ((exec_rep rfl hr hrun h6').trans ?_)
      rw [hroom]; rfl
    · have h6' : runOf hexc T (min 16 ((T.size : Int) - ((start + 6 : Nat) : Int)).toNat) (start + 6) < 6 := by rw [hroom]; unfold hexAt at h6; omega
      refine .inr ⟨by unfold hexAt at h6 ⊢; omega, ⟨start, 21, start + 6, handed, outermost, marks, -1, -1, [nsF start outermost], some false, sn⟩, rfl, rfl, rfl, ?_⟩
      exact (step_exec rfl rfl hz).trans ((exec_few rfl hr hrun h6').trans rfl)
/-- MARK 0 -/
theorem mark0 {s c : Nat} {f : Bool} {mk : Array (Option Nat)} {sn : Seen} :
    ∃ sn', ((B s f c mk sn).m T).step = (({ B s f c (mk.setIfInBounds 0 (some (s + 6 + c))) sn' with pc := 37, lastmark := 0 } : S)).m T := by
  have hz : 35 < rc.size := by decide
  exact ⟨sn.add 17, (step_exec rfl rfl hz).trans ((exec_mark rfl).trans rfl)⟩
/-- brackets -/
theorem rep_gt {s c : Nat} {f : Bool} {mk : Array (Option Nat)} {sn : Seen} (hp : s + 6 + c ≤ T.size) :
    (1 ≤ gtAt T (s + 6 + c) ∧ ∃ sn', ((({ B s f c mk sn with pc := 37, lastmark := 0 } : S)).m T).step = (D s f c (gtAt T (s + 6 + c)) mk sn').m T) ∨
      (gtAt T (s + 6 + c) = 0 ∧ ∃ y : S, y.frames = [hF s f c, nsF s f] ∧ y.answer = some false ∧ y.start = s ∧ y.marks = mk ∧ ((({ B s f c mk sn with pc := 37, lastmark := 0 } : S)).m T).step = y.m T) := by
  have hz : 37 < rc.size := by decide
  have hle := runOf_le (· == 62) T (min 4294967295 (T.size - (s + 6 + c))) (s + 6 + c)
  have hroom : ((T.size : Int) - ((s + 6 + c : Nat) : Int)).toNat = T.size - (s + 6 + c) := by omega
  by_cases hr : ((1 : Nat) : Int) > (T.size : Int) - ((s + 6 + c : Nat) : Int)
  · refine .inr ⟨by show gtAt T (s + 6 + c) = 0; unfold gtAt; omega, { B s f c mk (sn.add 24) with pc := 37, lastmark := 0, answer := some false }, rfl, rfl, rfl, rfl, ?_⟩
    exact (step_exec rfl rfl hz).trans ((exec_short rfl hr).trans rfl)
  · have hrun := run_gt (T := T) (min 4294967295 (T.size - (s + 6 + c))) (s + 6 + c) 0 ((sn.add 24).add 16)
    rw [Nat.zero_add, ← hroom] at hrun
    by_cases h6 : 1 ≤ gtAt T (s + 6 + c)
    · refine .inl ⟨h6, (sn.add 24).add 16, ?_⟩
      have h6' : ¬ runOf (· == 62) T (min 4294967295 ((T.size : Int) - ((s + 6 + c : Nat) : Int)).toNat) (s + 6 + c) < 1 := by rw [hroom]; unfold gtAt at h6; omega
      refine (step_exec rfl rfl hz).trans ((exec_rep rfl hr hrun h6').trans ?_)
      rw [hroom]; rfl
    · have h6' : runOf (· == 62) T (min 4294967295 ((T.size : Int) - ((s + 6 + c : Nat) : Int)).toNat) (s + 6 + c) < 1 := by rw [hroom]; unfold gtAt at h6; omega
      refine .inr ⟨by omega, { B s f c mk ((sn.add 24).add 16) with pc := 37, lastmark := 0, answer := some false }, rfl, rfl, rfl, rfl, ?_⟩
      exact (step_exec rfl rfl hz).trans ((exec_few rfl hr hrun h6').trans rfl)
/-- MARK 1 -/
theorem mark1 {s c e : Nat} {f : Bool} {mk : Array (Option Nat)} {sn : Seen} :
    ∃ sn', ((D s f c e mk sn).m T).step = (({ D s f c e (mk.setIfInBounds 1 (some (s + 6 + c + e))) sn' with pc := 46, lastmark := 1, lastindex := 1 } : S)).m T := by
  have hz : 44 < rc.size := by decide
  have w1 : rc.getD 45 0 = 1 := rfl
  refine ⟨sn.add 17, (step_exec rfl rfl hz).trans ((exec_mark rfl).trans ?_)⟩
  show M.mark _ (rc.getD 45 0) = _
  rw [w1]; rfl
/-- no end here -/
theorem at_no (hT : ∀ p, p < T.size → okc (T.getD p 0) = true) {s c e : Nat} {f : Bool} {mk : Array (Option Nat)} {sn : Seen} (hp : s + 6 + c + e ≤ T.size) (hne : s + 6 + c + e ≠ T.size) :
    ∃ sn', ((({ D s f c e mk sn with pc := 46, lastmark := 1, lastindex := 1 } : S)).m T).step = (({ D s f c e mk sn' with pc := 46, lastmark := 1, lastindex := 1, answer := some false } : S)).m T := by
  have hz : 46 < rc.size := by decide
  have h1 : (s + 6 + c + e == T.size) = false := beq_eq_false_iff_ne.mpr hne
  have h2 : (T.getD (s + 6 + c + e) 0 == 10) = false := by
    have := hT (s + 6 + c + e) (by omega)
    refine beq_eq_false_iff_ne.mpr fun q => ?_
    rw [q] at this
    exact absurd this (by decide)
  have hy : (Except.ok (s + 6 + c + e == T.size || (s + 6 + c + e + 1 == T.size && T.getD (s + 6 + c + e) 0 == 10)) : Except String Bool) = .ok false := by rw [h1, h2, Bool.and_false, Bool.or_self]
  exact ⟨(sn.add 6).add 48, (step_exec rfl rfl hz).trans ((exec_at (m := ({ D s f c e mk sn with pc := 46, lastmark := 1, lastindex := 1 } : S).m T) (yes := false) rfl hy).trans ((if_neg Bool.false_ne_true).trans rfl))⟩
/-- the end -/
theorem at_yes {s c e : Nat} {f : Bool} {mk : Array (Option Nat)} {sn : Seen} (he : s + 6 + c + e = T.size) :
    ∃ sn', ((({ D s f c e mk sn with pc := 46, lastmark := 1, lastindex := 1 } : S)).m T).step = (({ D s f c e mk sn' with pc := 48, lastmark := 1, lastindex := 1 } : S)).m T := by
  have hz : 46 < rc.size := by decide
  have hy : (Except.ok (s + 6 + c + e == T.size || (s + 6 + c + e + 1 == T.size && T.getD (s + 6 + c + e) 0 == 10)) : Except String Bool) = .ok true := by rw [he, BEq.rfl, Bool.true_or]
  exact ⟨(sn.add 6).add 48, (step_exec rfl rfl hz).trans ((exec_at (m := ({ D s f c e mk sn with pc := 46, lastmark := 1, lastindex := 1 } : S).m T) (yes := true) rfl hy).trans ((if_pos rfl).trans rfl))⟩
theorem succ_ {s c e : Nat} {f : Bool} {mk : Array (Option Nat)} {sn : Seen} :
    ∃ sn', ((({ D s f c e mk sn with pc := 48, lastmark := 1, lastindex := 1 } : S)).m T).step = (({ D s f c e mk sn' with pc := 48, lastmark := 1, lastindex := 1, answer := some true } : S)).m T := by
  have hz : 48 < rc.size := by decide
  have hb : ∀ b c d : Bool, (b && ((false && c) || (false && d))) = false := by decide
  exact ⟨sn.add 1, (step_exec rfl rfl hz).trans ((exec_success rfl (hb _ _ _)).trans rfl)⟩
/-- one bracket is given back -/
theorem back_gt {x : S} {s c e : Nat} {f : Bool} (hf : x.frames = [gF (s + 6 + c) f (e + 1), hF s f c, nsF s f]) (ha : x.answer = some false) (hs : x.start = s) :
    (1 ≤ e ∧ ∃ sn', (x.m T).step = (D s f c e x.marks sn').m T) ∨
      (e = 0 ∧ ∃ y : S, y.frames = [hF s f c, nsF s f] ∧ y.answer = some false ∧ y.start = s ∧ y.marks = x.marks ∧ (x.m T).step = y.m T) := by
  obtain ⟨start, pc, pos, handed, outermost, marks, lastmark, lastindex, frames, answer, seen⟩ := x
  simp only at hf ha hs
  subst hf ha hs
  have w1 : rc.getD 38 0 = 6 := rfl
  have w2 : rc.getD 39 0 = 1 := rfl
  by_cases he : 1 ≤ e
  · refine .inl ⟨he, seen, ?_⟩
    have hn : ¬ ((e : Int) < ((1 : Nat) : Int)) := by omega
    have hcn : (((e + 1 : Nat) : Int) - 1) = (e : Int) := by omega
    have hpn : start + 6 + c + (e + 1) - 1 = start + 6 + c + e := by omega
    refine (step_resume rfl rfl rfl).trans ((resume_back rfl (by show ¬ (((e + 1 : Nat) : Int) - 1 < ((1 : Nat) : Int)); rw [hcn]; exact hn)).trans ?_)
    dsimp only
    rw [hcn, hpn]; rfl
  · have he0 : e = 0 := by omega
    subst he0
    refine .inr ⟨rfl, ⟨start, 37, start + 6 + c + (0 + 1), handed, f, marks, 0, -1, [hF start f c, nsF start f], some false, seen⟩, rfl, rfl, rfl, rfl, ?_⟩
    have hn : (((0 + 1 : Nat) : Int) - 1 < ((1 : Nat) : Int)) := by decide
    exact (step_resume rfl rfl rfl).trans ((resume_low rfl hn).trans rfl)
/-- one hex sign is given back -/
theorem back_hex {x : S} {s c : Nat} {f : Bool} (hf : x.frames = [hF s f (c + 1), nsF s f]) (ha : x.answer = some false) (hs : x.start = s) :
    (6 ≤ c ∧ ∃ sn', (x.m T).step = (B s f c x.marks sn').m T) ∨
      (c < 6 ∧ ∃ y : S, y.frames = [nsF s f] ∧ y.answer = some false ∧ y.marks = x.marks ∧ (x.m T).step = y.m T) := by
  obtain ⟨start, pc, pos, handed, outermost, marks, lastmark, lastindex, frames, answer, seen⟩ := x
  simp only at hf ha hs
  subst hf ha hs
  have w1 : rc.getD 22 0 = 13 := rfl
  have w2 : rc.getD 23 0 = 6 := rfl
  by_cases he : 6 ≤ c
  · refine .inl ⟨he, seen, ?_⟩
    have hn : ¬ ((c : Int) < ((6 : Nat) : Int)) := by omega
    have hcn : (((c + 1 : Nat) : Int) - 1) = (c : Int) := by omega
    have hpn : start + 6 + (c + 1) - 1 = start + 6 + c := by omega
    refine (step_resume rfl rfl rfl).trans ((resume_back rfl (by show ¬ (((c + 1 : Nat) : Int) - 1 < ((6 : Nat) : Int)); rw [hcn]; exact hn)).trans ?_)
    dsimp only
    rw [hcn, hpn]; rfl
  · refine .inr ⟨by omega, ⟨start, 21, start + 6 + (c + 1), handed, f, marks, -1, -1, [nsF start f], some false, seen⟩, rfl, rfl, rfl, ?_⟩
    have hn : (((c + 1 : Nat) : Int) - 1 < ((6 : Nat) : Int)) := by omega
    exact (step_resume rfl rfl rfl).trans ((resume_low rfl hn).trans rfl)
/-- yes is handed on -/
theorem yes_on {x : S} {g : Frame} {r : List Frame} (hf : x.frames = g :: r) (hw : g.wait = .giveBack ∨ g.wait = .nextStart) (hk : g.kept.marks = #[]) (ha : x.answer = some true) :
    (x.m T).step = (({ x with frames := r, pc := g.pc, pos := g.pos, outermost := g.outermost } : S)).m T := by
  obtain ⟨start, pc, pos, handed, outermost, marks, lastmark, lastindex, frames, answer, seen⟩ := x
  simp only at hf ha
  subst hf ha
  refine (step_resume rfl rfl rfl).trans ((resume_yes hw).trans ?_)
  dsimp only [M.say, S.m, List.length_cons]
  rw [hk]; rfl
theorem S.m_none (x : S) (T : Array Nat) : (x.m T).outcome = none := rfl
/-- the answer no, the brackets' frame above: the hex frame's turn at last -/
theorem down_gt (hT : ∀ p, p < T.size → okc (T.getD p 0) = true) {s c : Nat} {f : Bool} : ∀ (e : Nat) {x : S}, x.frames = [gF (s + 6 + c) f (e + 1), hF s f c, nsF s f] → x.answer = some false → x.start = s →
    s + 6 + c + e ≤ T.size → (∀ e', 1 ≤ e' → e' ≤ e → s + 6 + c + e' ≠ T.size) →
    ∃ y : S, y.frames = [hF s f c, nsF s f] ∧ y.answer = some false ∧ y.start = s ∧ y.marks.size = x.marks.size ∧ To (3 * e + 1) (x.m T) (y.m T) := by
  intro e
  induction e with
  | zero =>
    intro x hf ha hs hle hne
    rcases back_gt (T := T) hf ha hs with ⟨h1, sn, hst⟩ | ⟨h0, y, hy, ya, ys, ym, hst⟩
    · exact absurd h1 (by decide)
    · exact ⟨y, hy, ya, ys, by rw [ym], (To.step hst rfl (To.refl _)).mono (by omega)⟩
  | succ e' ih =>
    intro x hf ha hs hle hne
    rcases back_gt (T := T) hf ha hs with ⟨h1, sn, hst⟩ | ⟨h0, y, hy, ya, ys, ym, hst⟩
    · obtain ⟨sn1, hm⟩ := mark1 (T := T) (s := s) (c := c) (e := e' + 1) (f := f) (mk := x.marks) (sn := sn)
      obtain ⟨sn2, hat⟩ := at_no hT (s := s) (c := c) (e := e' + 1) (f := f) (mk := x.marks.setIfInBounds 1 (some (s + 6 + c + (e' + 1)))) (sn := sn1) (by omega) (hne _ (by omega) (by omega))
      obtain ⟨y, hy, ya, ys, ym, yt⟩ := ih (x := { D s f c (e' + 1) (x.marks.setIfInBounds 1 (some (s + 6 + c + (e' + 1)))) sn2 with pc := 46, lastmark := 1, lastindex := 1, answer := some false }) rfl rfl rfl (by omega) (fun k h1 h2 => hne k h1 (by omega))
      refine ⟨y, hy, ya, ys, by rw [ym]; simp [D], ?_⟩
      exact (To.step hst rfl (To.step hm rfl (To.step hat rfl yt))).mono (by omega)
    · exact ⟨y, hy, ya, ys, by rw [ym], (To.step hst rfl (To.refl _)).mono (by omega)⟩
/-- c hex signs taken, and no end behind them -/
theorem B_no (hT : ∀ p, p < T.size → okc (T.getD p 0) = true) {s c : Nat} {f : Bool} {mk : Array (Option Nat)} {sn : Seen} (hle : s + 6 + c ≤ T.size) (hne : ∀ e, 1 ≤ e → e ≤ gtAt T (s + 6 + c) → s + 6 + c + e ≠ T.size) :
    ∃ y : S, y.frames = [hF s f c, nsF s f] ∧ y.answer = some false ∧ y.start = s ∧ y.marks.size = mk.size ∧ To (3 * T.size + 6) ((B s f c mk sn).m T) (y.m T) := by
  obtain ⟨sn1, h0⟩ := mark0 (T := T) (s := s) (c := c) (f := f) (mk := mk) (sn := sn)
  rcases rep_gt (T := T) (s := s) (c := c) (f := f) (mk := mk.setIfInBounds 0 (some (s + 6 + c))) (sn := sn1) hle with ⟨h1, sn2, hst⟩ | ⟨hz, y, hy, ya, ys, ym, hst⟩
  · have hle2 := runOf_le (· == 62) T (min 4294967295 (T.size - (s + 6 + c))) (s + 6 + c)
    have hge : gtAt T (s + 6 + c) ≤ T.size - (s + 6 + c) := by unfold gtAt; omega
    obtain ⟨g, hg⟩ : ∃ g, gtAt T (s + 6 + c) = g + 1 := ⟨gtAt T (s + 6 + c) - 1, by omega⟩
    rw [hg] at hst hne hge
    obtain ⟨sn3, hm⟩ := mark1 (T := T) (s := s) (c := c) (e := g + 1) (f := f) (mk := mk.setIfInBounds 0 (some (s + 6 + c))) (sn := sn2)
    obtain ⟨sn4, hat⟩ := at_no hT (s := s) (c := c) (e := g + 1) (f := f) (mk := (mk.setIfInBounds 0 (some (s + 6 + c))).setIfInBounds 1 (some (s + 6 + c + (g + 1)))) (sn := sn3) (by omega) (hne _ (by omega) (by omega))
    obtain ⟨y, hy, ya, ys, ym, yt⟩ := down_gt hT g (x := { D s f c (g + 1) ((mk.setIfInBounds 0 (some (s + 6 + c))).setIfInBounds 1 (some (s + 6 + c + (g + 1)))) sn4 with pc := 46, lastmark := 1, lastindex := 1, answer := some false }) rfl rfl rfl (by omega) (fun k h1 h2 => hne k h1 (by omega))
    exact ⟨y, hy, ya, ys, by rw [ym]; simp [D], (To.step h0 rfl (To.step hst rfl (To.step hm rfl (To.step hat rfl yt)))).mono (by omega)⟩
  · exact ⟨y, hy, ya, ys, by rw [ym]; simp, (To.step h0 rfl (To.step hst rfl (To.refl _))).mono (by omega)⟩
theorem down_hex (hT : ∀ p, p < T.size → okc (T.getD p 0) = true) {s : Nat} {f : Bool} : ∀ (c : Nat) {x : S}, x.frames = [hF s f (c + 1), nsF s f] → x.answer = some false → x.start = s →
    s + 6 + c ≤ T.size → (∀ c', 6 ≤ c' → c' ≤ c → ∀ e, 1 ≤ e → e ≤ gtAt T (s + 6 + c') → s + 6 + c' + e ≠ T.size) →
    ∃ y : S, y.frames = [nsF s f] ∧ y.answer = some false ∧ y.marks.size = x.marks.size ∧ To ((c + 1) * (3 * T.size + 7)) (x.m T) (y.m T) := by
  intro c
  induction c with
  | zero =>
    intro x hf ha hs hle hne
    rcases back_hex (T := T) hf ha hs with ⟨h6, sn, hst⟩ | ⟨h6, y, hy, ya, ym, hst⟩
    · exact absurd h6 (by decide)
    · exact ⟨y, hy, ya, by rw [ym], (To.step hst rfl (To.refl _)).mono (by omega)⟩
  | succ c' ih =>
    intro x hf ha hs hle hne
    rcases back_hex (T := T) hf ha hs with ⟨h6, sn, hst⟩ | ⟨h6, y, hy, ya, ym, hst⟩
    · obtain ⟨y, hy, ya, ys, ym, yt⟩ := B_no hT (s := s) (c := c' + 1) (f := f) (mk := x.marks) (sn := sn) hle (hne _ h6 (Nat.le_refl _))
      obtain ⟨z, hz, za, zm, zt⟩ := ih hy ya ys (by omega) (fun k h1 h2 => hne k h1 (by omega))
      exact ⟨z, hz, za, by rw [zm, ym], (To.step hst rfl (yt.trans zt)).mono (by rw [Nat.add_mul (c' + 1) 1]; omega)⟩
    · exact ⟨y, hy, ya, by rw [ym], (To.step hst rfl (To.refl _)).mono (by rw [Nat.add_mul (c' + 1) 1]; omega)⟩
/-- the six signs ahead of the figures -/
def lits : List Nat := [32, 97, 116, 32, 48, 120]
def litsAt (T : Array Nat) (s : Nat) : Prop := ∀ k, k < 6 → s + k < T.size ∧ T.getD (s + k) 0 = lits.getD k 0
/-- no match begins at s -/
def Fails (T : Array Nat) (s : Nat) : Prop := litsAt T s → ∀ c, 6 ≤ c → c ≤ hexAt T (s + 6) → ∀ e, 1 ≤ e → e ≤ gtAt T (s + 6 + c) → s + 6 + c + e ≠ T.size
theorem lit_pc : ∀ k, k < 6 → (rc.getD (9 + 2 * k) 0 = 16 ∨ rc.getD (9 + 2 * k) 0 = 40) ∧ rc.getD (9 + 2 * k + 1) 0 = lits.getD k 0 ∧ okc (lits.getD k 0) = true := by decide
/-- the six signs: all stand, or one does not -/
theorem six (hT : ∀ p, p < T.size → okc (T.getD p 0) = true) {s : Nat} {f : Bool} {mk : Array (Option Nat)} : ∀ (j k : Nat), k + j = 6 → ∀ sn, (∀ i, i < k → s + i < T.size ∧ T.getD (s + i) 0 = lits.getD i 0) →
    (litsAt T s ∧ ∃ sn', To j ((({ A s f mk sn with pc := 9 + 2 * k, pos := s + k } : S)).m T) ((({ A s f mk sn' with pc := 21, pos := s + 6 } : S)).m T)) ∨
    (¬ litsAt T s ∧ ∃ y : S, y.frames = [nsF s f] ∧ y.answer = some false ∧ y.marks = mk ∧ To j ((({ A s f mk sn with pc := 9 + 2 * k, pos := s + k } : S)).m T) (y.m T))
  | 0, k, hk, sn, h => by
    have : k = 6 := by omega
    subst this
    exact .inl ⟨h, sn, To.refl _⟩
  | j + 1, k, hk, sn, h => by
    obtain ⟨l1, l2, l3⟩ := lit_pc k (by omega)
    by_cases hc : s + k < T.size ∧ T.getD (s + k) 0 = lits.getD k 0
    · obtain ⟨sn1, h1⟩ := lit_ok (T := T) (x := { A s f mk sn with pc := 9 + 2 * k, pos := s + k }) l1 l2 (by show 9 + 2 * k < 49; omega) rfl hc.1 hc.2 l3
      rcases six hT j (k + 1) (by omega) sn1 (fun i hi => by
        rcases Nat.lt_or_ge i k with q | q
        · exact h i q
        · have : i = k := by omega
          subst this; exact hc) with ⟨a, sn', b⟩ | ⟨a, y, hy, ya, ym, b⟩
      · exact .inl ⟨a, sn', To.step h1 rfl b⟩
      · exact .inr ⟨a, y, hy, ya, ym, To.step h1 rfl b⟩
    · refine .inr ⟨fun q => hc (q k (by omega)), ?_⟩
      obtain ⟨sn1, h1⟩ := lit_no (T := T) (x := { A s f mk sn with pc := 9 + 2 * k, pos := s + k }) l1 l2 (by show 9 + 2 * k < 49; omega) rfl (fun q => ⟨fun r => hc ⟨q, r⟩, hT _ q⟩)
      exact ⟨_, rfl, rfl, rfl, (To.step h1 rfl (To.refl _)).mono (by omega)⟩
/-- a start that fails -/
theorem A_no (hT : ∀ p, p < T.size → okc (T.getD p 0) = true) {s : Nat} {f : Bool} {mk : Array (Option Nat)} {sn : Seen} (hF' : Fails T s) :
    ∃ y : S, y.frames = [nsF s f] ∧ y.answer = some false ∧ y.marks.size = mk.size ∧ To (18 * (3 * T.size + 7)) ((A s f mk sn).m T) (y.m T) := by
  rcases six hT (s := s) (f := f) (mk := mk) 6 0 rfl sn (fun i hi => absurd hi (Nat.not_lt_zero _)) with ⟨a, sn', b⟩ | ⟨a, y, hy, ya, ym, b⟩
  · have hs6 := (a 5 (by omega)).1
    rcases rep_hex hT (x := { A s f mk sn' with pc := 21, pos := s + 6 }) rfl rfl rfl rfl rfl rfl rfl rfl (by omega) with ⟨h6, sn2, hst⟩ | ⟨h6, y, hy, ya, ym, hst⟩
    · have hle2 := runOf_le hexc T (min 16 (T.size - (s + 6))) (s + 6)
      have hge : hexAt T (s + 6) ≤ T.size - (s + 6) := by unfold hexAt; omega
      have hF16 : hexAt T (s + 6) ≤ 16 := by unfold hexAt; omega
      have hFa := hF' a
      generalize hexAt T (s + 6) = n at h6 hst hge hFa hF16
      obtain ⟨c, rfl⟩ : ∃ c, n = c + 1 := ⟨n - 1, by omega⟩
      obtain ⟨y, hy, ya, ys, ym, yt⟩ := B_no hT (s := s) (c := c + 1) (f := f) (mk := mk) (sn := sn2) (by omega) (hFa _ h6 (Nat.le_refl _))
      obtain ⟨z, hz, za, zm, zt⟩ := down_hex hT c hy ya ys (by omega) (fun k h1 h2 => hFa k h1 (by omega))
      exact ⟨z, hz, za, by rw [zm, ym], (b.trans (To.step hst rfl (yt.trans zt))).mono (by
        have hc : c + 1 ≤ 15 + 1 := by omega
        have := Nat.mul_le_mul_right (3 * T.size + 7) hc
        omega)⟩
    · exact ⟨y, hy, ya, by rw [ym]; rfl, (b.trans (To.step hst rfl (To.refl _))).mono (by omega)⟩
  · exact ⟨y, hy, ya, by rw [ym], b.mono (by omega)⟩
/-- a start that matches to the end, all figures and all brackets taken -/
theorem A_yes (hT : ∀ p, p < T.size → okc (T.getD p 0) = true) {s : Nat} {f : Bool} {mk : Array (Option Nat)} {sn : Seen} (hl : litsAt T s) (h6 : 6 ≤ hexAt T (s + 6)) (h1 : 1 ≤ gtAt T (s + 6 + hexAt T (s + 6)))
    (he : s + 6 + hexAt T (s + 6) + gtAt T (s + 6 + hexAt T (s + 6)) = T.size) :
    ∃ y : S, y.frames = [] ∧ y.answer = some true ∧ y.start = s ∧ y.handed = T.size ∧ y.lastmark = 1 ∧ y.lastindex = 1 ∧
      y.marks = (mk.setIfInBounds 0 (some (s + 6 + hexAt T (s + 6)))).setIfInBounds 1 (some T.size) ∧ To 15 ((A s f mk sn).m T) (y.m T) := by
  rcases six hT (s := s) (f := f) (mk := mk) 6 0 rfl sn (fun i hi => absurd hi (Nat.not_lt_zero _)) with ⟨a, sn', b⟩ | ⟨a, y, hy, ya, ym, b⟩
  · have hs6 := (a 5 (by omega)).1
    rcases rep_hex hT (x := { A s f mk sn' with pc := 21, pos := s + 6 }) rfl rfl rfl rfl rfl rfl rfl rfl (by omega) with ⟨_, sn2, hst⟩ | ⟨q, _⟩
    · generalize hexAt T (s + 6) = c at h6 h1 he hst
      obtain ⟨sn3, h0⟩ := mark0 (T := T) (s := s) (c := c) (f := f) (mk := mk) (sn := sn2)
      rcases rep_gt (T := T) (s := s) (c := c) (f := f) (mk := mk.setIfInBounds 0 (some (s + 6 + c))) (sn := sn3) (by omega) with ⟨_, sn4, hst2⟩ | ⟨hz, _⟩
      · generalize gtAt T (s + 6 + c) = e at h1 he hst2
        obtain ⟨sn5, hm⟩ := mark1 (T := T) (s := s) (c := c) (e := e) (f := f) (mk := mk.setIfInBounds 0 (some (s + 6 + c))) (sn := sn4)
        rw [he] at hm
        obtain ⟨sn6, hat⟩ := at_yes (T := T) (s := s) (c := c) (e := e) (f := f) (mk := (mk.setIfInBounds 0 (some (s + 6 + c))).setIfInBounds 1 (some T.size)) (sn := sn5) he
        obtain ⟨sn7, hs⟩ := succ_ (T := T) (s := s) (c := c) (e := e) (f := f) (mk := (mk.setIfInBounds 0 (some (s + 6 + c))).setIfInBounds 1 (some T.size)) (sn := sn6)
        refine ⟨_, ?_, ?_, ?_, ?_, ?_, ?_, ?_, b.trans (To.step hst rfl (To.step h0 rfl (To.step hst2 rfl (To.step hm rfl (To.step hat rfl (To.step hs rfl
          (To.step (yes_on rfl (.inl rfl) rfl rfl) rfl (To.step (yes_on rfl (.inl rfl) rfl rfl) rfl (To.step (yes_on rfl (.inr rfl) rfl rfl) rfl (To.refl _))))))))))⟩
        all_goals first | rfl | exact he
      · omega
    · omega
  · exact absurd hl a
/-- how a search ends: matched at t, or nowhere -/
theorem search_no (hT : ∀ p, p < T.size → okc (T.getD p 0) = true) : ∀ (j s : Nat) (f : Bool) (mk : Array (Option Nat)) (sn : Seen), s + j = T.size → (∀ t, s ≤ t → t ≤ T.size → Fails T t) →
    ∃ y : S, y.frames = [] ∧ y.answer = some false ∧ To ((j + 1) * (18 * (3 * T.size + 7) + 1)) ((A s f mk sn).m T) (y.m T)
  | 0, s, f, mk, sn, hj, hF' => by
    obtain ⟨y, hy, ya, ym, yt⟩ := A_no hT (f := f) (mk := mk) (sn := sn) (hF' s (Nat.le_refl _) (by omega))
    obtain ⟨z, hz, za, zs⟩ := no_start (T := T) hy ya (by omega)
    exact ⟨z, hz, za, (yt.trans (To.step zs rfl (To.refl _))).mono (by omega)⟩
  | j + 1, s, f, mk, sn, hj, hF' => by
    obtain ⟨y, hy, ya, ym, yt⟩ := A_no hT (f := f) (mk := mk) (sn := sn) (hF' s (Nat.le_refl _) (by omega))
    obtain ⟨z, hz, za, zt⟩ := search_no hT j (s + 1) false y.marks y.seen (by omega) (fun t h1 h2 => hF' t (by omega) h2)
    exact ⟨z, hz, za, (yt.trans (To.step (next_start hy ya (by omega)) rfl zt)).mono (by rw [Nat.add_mul (j + 1) 1]; omega)⟩
theorem search_yes (hT : ∀ p, p < T.size → okc (T.getD p 0) = true) {t : Nat} (ht : t < T.size) (hl : litsAt T t) (h6 : 6 ≤ hexAt T (t + 6)) (h1 : 1 ≤ gtAt T (t + 6 + hexAt T (t + 6)))
    (he : t + 6 + hexAt T (t + 6) + gtAt T (t + 6 + hexAt T (t + 6)) = T.size) :
    ∀ (j s : Nat) (f : Bool) (mk : Array (Option Nat)) (sn : Seen), s + j = t → mk.size = 2 → (∀ u, s ≤ u → u < t → Fails T u) →
    ∃ y : S, y.frames = [] ∧ y.answer = some true ∧ y.start = t ∧ y.handed = T.size ∧ y.lastmark = 1 ∧ y.lastindex = 1 ∧ y.marks = #[some (t + 6 + hexAt T (t + 6)), some T.size] ∧ To ((j + 1) * (18 * (3 * T.size + 7) + 1)) ((A s f mk sn).m T) (y.m T)
  | 0, s, f, mk, sn, hj, hm, hF' => by
    have : s = t := by omega
    subst this
    obtain ⟨y, y1, y2, y3, y4, y5, y6, y7, yt⟩ := A_yes hT (f := f) (mk := mk) (sn := sn) hl h6 h1 he
    refine ⟨y, y1, y2, y3, y4, y5, y6, ?_, yt.mono (by omega)⟩
    rw [y7]
    obtain ⟨l⟩ := mk
    match l, hm with
    | [a, b], _ => rfl
  | j + 1, s, f, mk, sn, hj, hm, hF' => by
    obtain ⟨y, hy, ya, ym, yt⟩ := A_no hT (f := f) (mk := mk) (sn := sn) (hF' s (Nat.le_refl _) (by omega))
    obtain ⟨z, y1, y2, y3, y4, y5, y6, y7, zt⟩ := search_yes hT ht hl h6 h1 he j (s + 1) false y.marks y.seen (by omega) (by rw [ym, hm]) (fun t h1 h2 => hF' t (by omega) h2)
    exact ⟨z, y1, y2, y3, y4, y5, y6, y7, (yt.trans (To.step (next_start hy ya (by omega)) rfl zt)).mono (by rw [Nat.add_mul (j + 1) 1]; omega)⟩
end
end
section
open PySem hiding Frame Kept Step run
open PySem.Sre
theorem To.run {n : Nat} {m m' : M} (h : To n m m') : ∃ k, k ≤ n ∧ M.runFor k m = m' := by
  obtain ⟨k, hk, e⟩ := h
  exact ⟨k, hk, e 0⟩
theorem forSearch_0 {T : Array Nat} (h : 13 ≤ T.size) : ∃ sn, forSearch rc T 1 0 T.size false = (A 0 true #[none, none] sn).m T := by
  refine ⟨({} : Seen).add 14, ?_⟩
  have h1 : ¬ (0 > T.size ∨ T.size - 0 < 13) := by omega
  have e1 : (header rc).1 = 13 := rfl
  have e2 : (header rc).2 = 9 := rfl
  unfold forSearch
  simp only [e1, e2, h1, Bool.or_eq_true, decide_eq_true_eq, if_false]
  rfl
theorem forSearch_end {T : Array Nat} {p : Nat} (h : T.size - p < 13) : (forSearch rc T 1 p T.size false).frames = [] ∧ (forSearch rc T 1 p T.size false).answer = some false ∧ (forSearch rc T 1 p T.size false).outcome = none := by
  have h1 : (p > T.size ∨ T.size - p < 13) := by omega
  have e1 : (header rc).1 = 13 := rfl
  have e2 : (header rc).2 = 9 := rfl
  unfold forSearch
  simp only [e1, e2, h1, Bool.or_eq_true, decide_eq_true_eq, if_true]
  exact ⟨rfl, rfl, rfl⟩
theorem last_step {m : M} {b : Bool} (hf : m.frames = []) (ha : m.answer = some b) (ho : m.outcome = none) : m.step = { m with outcome := some (if b then .matched else .failed) } := by
  simp only [M.step, ho, ha, hf, Option.isSome_none, Bool.false_eq_true, if_false]
end
-- part R2
section
open PySem PySem.Sre PySem.Builtin.Re
theorem runFor_done {m : M} (h : m.outcome.isSome = true) : ∀ n, M.runFor n m = m
  | 0 => rfl
  | n + 1 => by rw [M.runFor, if_pos h]
theorem runFor_add : ∀ (a b : Nat) (m : M), M.runFor (a + b) m = M.runFor b (M.runFor a m)
  | 0, b, m => by rw [Nat.zero_add]; rfl
  | a + 1, b, m => by
    rw [show a + 1 + b = (a + b) + 1 by omega, M.runFor, M.runFor]
    by_cases h : m.outcome.isSome = true
    · rw [if_pos h, if_pos h, runFor_done h]
    · rw [if_neg h, if_neg h, runFor_add a b]
section
variable {M' : Model} {Ar : Around} {E : Value → Shared → Prop} {s : Shared}
theorem drive {Q : M → Shared → Prop} : ∀ (turns k : Nat) (m : M), k ≤ turns → (M.runFor k m).outcome.isSome = true → Q (M.runFor k m) s → wpAny M' Ar (reDrive (turns + 1) m) Q E s
  | 0, k, m, hk, ho, q => by
    have : k = 0 := by omega
    subst this
    have hm : (m.runFor reTurnSteps) = m := runFor_done ho _
    unfold reDrive
    simp only [hm]
    rw [if_pos (show m.outcome.isSome = true from ho)]
    exact wpAny_pure q
  | turns + 1, k, m, hk, ho, q => by
    unfold reDrive
    show wpAny M' Ar (if (m.runFor reTurnSteps).outcome.isSome = true then pure (m.runFor reTurnSteps) else do rule "sre.turn"; reDrive (turns + 1) (m.runFor reTurnSteps)) Q E s
    by_cases h : (m.runFor reTurnSteps).outcome.isSome = true
    · rw [if_pos h]
      have e : m.runFor reTurnSteps = m.runFor k := by
        rcases Nat.le_total reTurnSteps k with q | q
        · obtain ⟨d, hd⟩ := Nat.le.dest q
          rw [← hd, runFor_add, runFor_done h]
        · obtain ⟨d, hd⟩ := Nat.le.dest q
          rw [← hd, runFor_add, runFor_done ho]
      rw [e]
      exact wpAny_pure q
    · rw [if_neg h]
      refine wpAny_bind (wpAny_rule ?_)
      rcases Nat.le_total reTurnSteps k with q' | q'
      · obtain ⟨d, hd⟩ := Nat.le.dest q'
        rw [← hd, runFor_add] at ho q
        refine drive turns d _ ?_ ho q
        have : reTurnSteps = 4 := rfl
        omega
      · obtain ⟨d, hd⟩ := Nat.le.dest q'
        rw [← hd, runFor_add, runFor_done ho] at h
        exact absurd ho h
theorem tags {Q : PUnit → Shared → Prop} (f : Nat → PUnit → Sem (ForInStep PUnit)) (hf : ∀ i (R : ForInStep PUnit → Shared → Prop), R (.yield ()) s → wpAny M' Ar (f i ()) R E s) :
    ∀ l : List Nat, Q () s → wpAny M' Ar (forIn l PUnit.unit f) Q E s
  | [], q => by rw [List.forIn_nil]; exact wpAny_pure q
  | i :: r, q => by
    rw [List.forIn_cons]
    exact wpAny_bind (hf i _ (tags f hf r q))
theorem run_to_end {Q : Option M → Shared → Prop} {m : M} {k : Nat} (hk : k < 2 ^ 64) (hf : (M.runFor k m).outcome = some .failed) (q : Q none s) : wpAny M' Ar (reRunToEnd m) Q E s := by
  unfold reRunToEnd
  refine wpAny_bind (drive (2 ^ 64 - 1) k m (by omega) (by rw [hf]; rfl) ?_)
  refine wpAny_bind (tags _ (fun i R h => ?_) _ ?_)
  · split
    · exact wpAny_bind (wpAny_rule (wpAny_pure h))
    · exact wpAny_pure h
  · rw [hf]; exact wpAny_pure q
theorem run_to_match {Q : Option M → Shared → Prop} {m : M} {k : Nat} (hk : k < 2 ^ 64) (hf : (M.runFor k m).outcome = some .matched) (q : Q (some (M.runFor k m)) s) : wpAny M' Ar (reRunToEnd m) Q E s := by
  unfold reRunToEnd
  refine wpAny_bind (drive (2 ^ 64 - 1) k m (by omega) (by rw [hf]; rfl) ?_)
  refine wpAny_bind (tags _ (fun i R h => ?_) _ ?_)
  · split
    · exact wpAny_bind (wpAny_rule (wpAny_pure h))
    · exact wpAny_pure h
  · rw [hf]; exact wpAny_pure q
theorem bound_small {T : Array Nat} {j k : Nat} (hj : j ≤ T.size) (hs : T.size ≤ 100000) (h : k ≤ (j + 1) * (18 * (3 * T.size + 7) + 1)) : k + 1 < 2 ^ 64 := by
  have h1 : (j + 1) * (18 * (3 * T.size + 7) + 1) ≤ 100001 * (18 * (3 * 100000 + 7) + 1) := Nat.mul_le_mul (by omega) (by omega)
  have h2 : 100001 * (18 * (3 * 100000 + 7) + 1) + 1 < 2 ^ 64 := by decide
  omega
theorem found_no {Q : Option M → Shared → Prop} {T : Array Nat} (hT : ∀ p, p < T.size → okc (T.getD p 0) = true) (h13 : 13 ≤ T.size) (hs : T.size ≤ 100000) (hF : ∀ t, t ≤ T.size → Fails T t) (q : Q none s) :
    wpAny M' Ar (reRunToEnd (forSearch rc T 1 0 T.size false)) Q E s := by
  obtain ⟨sn, e⟩ := forSearch_0 h13
  obtain ⟨y, hy, ya, t⟩ := search_no hT T.size 0 true #[none, none] sn (Nat.zero_add _) (fun t _ h => hF t h)
  obtain ⟨k, hk, e2⟩ := t.run
  rw [e]
  refine run_to_end (k := k + 1) (bound_small (Nat.le_refl _) hs hk) ?_ q
  rw [runFor_add, e2]
  show (M.runFor 1 (y.m T)).outcome = _
  rw [M.runFor, if_neg (by show ¬ (none : Option Sre.Outcome).isSome = true; decide), last_step (b := false) hy ya rfl]
  rfl
theorem found_end {Q : Option M → Shared → Prop} {T : Array Nat} {p : Nat} (h : T.size - p < 13) (q : Q none s) : wpAny M' Ar (reRunToEnd (forSearch rc T 1 p T.size false)) Q E s := by
  obtain ⟨h1, h2, h3⟩ := forSearch_end h
  refine run_to_end (k := 1) (by decide) ?_ q
  rw [M.runFor, if_neg (by rw [h3]; decide), last_step (b := false) h1 h2 h3]
  rfl
theorem found_yes {Q : Option M → Shared → Prop} {T : Array Nat} (hT : ∀ p, p < T.size → okc (T.getD p 0) = true) (h13 : 13 ≤ T.size) (hs : T.size ≤ 100000) {t : Nat} (ht : t < T.size) (hl : litsAt T t) (h6 : 6 ≤ hexAt T (t + 6))
    (h1 : 1 ≤ gtAt T (t + 6 + hexAt T (t + 6))) (he : t + 6 + hexAt T (t + 6) + gtAt T (t + 6 + hexAt T (t + 6)) = T.size) (hF : ∀ u, u < t → Fails T u)
    (q : ∀ m : M, m.start = t → m.handed = T.size → m.lastmark = 1 → m.lastindex = 1 → m.marks = #[some (t + 6 + hexAt T (t + 6)), some T.size] → Q (some m) s) :
    wpAny M' Ar (reRunToEnd (forSearch rc T 1 0 T.size false)) Q E s := by
  obtain ⟨sn, e⟩ := forSearch_0 h13
  obtain ⟨y, hy, ya, y3, y4, y5, y6, y7, tt⟩ := search_yes hT ht hl h6 h1 he t 0 true #[none, none] sn (Nat.zero_add _) rfl (fun t _ h => hF t h)
  obtain ⟨k, hk, e2⟩ := tt.run
  rw [e]
  have e3 : M.runFor (k + 1) ((A 0 true #[none, none] sn).m T) = { y.m T with outcome := some .matched } := by
    rw [runFor_add, e2, M.runFor, if_neg (by show ¬ (none : Option Sre.Outcome).isSome = true; decide), last_step (b := true) hy ya rfl]
    rfl
  refine run_to_match (k := k + 1) (bound_small (Nat.le_of_lt ht) hs hk) (by rw [e3]) ?_
  rw [e3]
  exact q _ y3 y4 y5 y6 y7
end
end
-- part R3
section
open PySem PySem.Builtin.Re PySem.Calls
theorem plainAttrs_pat : PlainAttrs "re.Pattern" :=
  ⟨⟨"object.__getattribute__", by rw [typeLookup_type, builtinLookup_eq_fast]; kernel_rfl, by decide +kernel⟩, by rw [typeLookup_type, builtinLookup_eq_fast]; kernel_rfl⟩
theorem plainAttrs_match : PlainAttrs "re.Match" :=
  ⟨⟨"object.__getattribute__", by rw [typeLookup_type, builtinLookup_eq_fast]; kernel_rfl, by decide +kernel⟩, by rw [typeLookup_type, builtinLookup_eq_fast]; kernel_rfl⟩
theorem slot_sub : Slot "re.Pattern" "sub" "re.Pattern.sub" :=
  .of (owner := "re.Pattern") (n := "sub") (by rw [typeLookup_type, builtinLookup_eq_fast]; kernel_rfl) (by decide +kernel) (by decide +kernel) (by decide +kernel)
    (by first | exact .inl (by decide +kernel) | exact .inr (by decide +kernel)) (by rw [isSubtype_type]; kernel_rfl)
theorem type_sub : typeOf (.builtin "re.Pattern.sub") = pure (.type "method_descriptor") := by show builtinType _ = _; rw [builtinType_eq_fast]; kernel_rfl
theorem entry_sub : entryFor table "re.Pattern.sub" = some Builtin.«re.Pattern.sub» := entryFor_of_tree (by kernel_rfl)
theorem args_sub_3 (a b c : Value) : argsOk "re.Pattern.sub" ⟨[a, b, c], []⟩ := by unfold argsOk; kernel_rfl
theorem entry_loop : entryFor table "re.Pattern.sub.loop" = some Builtin.«re.Pattern.sub.loop» := entryFor_of_tree (by kernel_rfl)
theorem plain_loop : plainId "re.Pattern.sub.loop" = true := by decide +kernel
theorem slot_group : Slot "re.Match" "group" "re.Match.group" :=
  .of (owner := "re.Match") (n := "group") (by rw [typeLookup_type, builtinLookup_eq_fast]; kernel_rfl) (by decide +kernel) (by decide +kernel) (by decide +kernel)
    (by first | exact .inl (by decide +kernel) | exact .inr (by decide +kernel)) (by rw [isSubtype_type]; kernel_rfl)
theorem type_group : typeOf (.builtin "re.Match.group") = pure (.type "method_descriptor") := by show builtinType _ = _; rw [builtinType_eq_fast]; kernel_rfl
theorem entry_group : entryFor table "re.Match.group" = some Builtin.«re.Match.group» := entryFor_of_tree (by kernel_rfl)
theorem args_group_2 (a b : Value) : argsOk "re.Match.group" ⟨[a, b], []⟩ := by unfold argsOk; kernel_rfl
theorem call_fn : typeLookup (.type "function") "__call__" = pure (some (.builtin "function.__call__")) := by rw [typeLookup_type, builtinLookup_eq_fast]; kernel_rfl
theorem sub_bytearray : isSubtype (.type "str") (.type "bytearray") = pure false := by rw [isSubtype_type]; kernel_rfl
end
-- part R4
section
open PySem PySem.Builtin PySem.Builtin.Re PySem.Calls PyProof.Rows PySem.W
/-- the pattern's object and its words' tuple -/
structure PatAt (h : Heap) : Prop where
  pat : ∃ o a t u, h.get? 43 = some o ∧ o.cls = .type "re.Pattern" ∧ o.dict = none ∧ o.data = .fields #[.str a t, .int 34 u, .int 1 0, .none, .none, .ref 42, .int 0 0]
  tup : ∃ o n, h.get? 42 = some o ∧ o.data = .seq (rc.map fun c : Nat => Value.int (c : Int) 0) n
theorem PatAt.keeps {h h' : Heap} (p : PatAt h) (k : ∀ b o, h.get? b = some o → h'.get? b = some o) : PatAt h' := by
  obtain ⟨⟨o, a, t, u, h1, h2⟩, ⟨o', n, h3, h4⟩⟩ := p
  exact ⟨⟨o, a, t, u, k _ _ h1, h2⟩, ⟨o', n, k _ _ h3, h4⟩⟩
abbrev tgt (x : Str) (t : Tok) : ReTarget := { pattern := .ref 43, string := .str x t, code := rc, text := x.cps, kind := 0, groups := 1, pos := 0, lim := x.cps.size }
section
variable {prog : Program} {w : World} {A : Around} {E : Value → Shared → Prop} {s : Shared}
theorem rawItems_ok (p : PatAt s.heap) {Q : Array Int → Shared → Prop} (q : Q (rc.map (fun c : Nat => (c : Int))) s) : wpAny (model prog w) A (reRawItems (.ref 42)) Q E s := by
  obtain ⟨_, ⟨o, n, h1, h2⟩⟩ := p
  unfold reRawItems seqItems?
  refine wpAny_bind (wpAny_bind (wpAny_load h1 ?_))
  rw [h2]
  refine wpAny_pure (wpAny_pure ?_)
  have e : (rc.map fun c : Nat => (Value.int c 0)).map reRawOf = rc.map (fun c : Nat => (c : Int)) := by rw [Array.map_map]; rfl
  show Q (((some (rc.map fun c : Nat => (Value.int c 0))).getD #[]).map reRawOf) s
  rw [Option.getD_some, e]
  exact q
theorem whole_ok (p : PatAt s.heap) {x : Str} {t : Tok} {Q : ReTarget → Shared → Prop} (q : Q (tgt x t) s) : wpAny (model prog w) A (reWholeTarget (.ref 43) (.str x t)) Q E s := by
  obtain ⟨o, a, t', u, h1, h2, _, h3⟩ := p.pat
  unfold reWholeTarget
  refine wpAny_bind (wpAny_fieldsOf h1 h3 ?_)
  unfold reTextOf
  refine wpAny_bind (wpAny_bind (wpAny_pure ?_))
  refine wpAny_pure ?_
  simp only
  refine wpAny_bind (wpAny_pure ?_)
  refine wpAny_bind (rawItems_ok p ?_)
  refine wpAny_pure ?_
  have e : (rc.map (fun c : Nat => (c : Int))).map (·.toNat) = rc := by decide +kernel
  rw [e]
  exact q
abbrev loopArgs (f : Addr) (x : Str) (t : Tok) (n done start : Int) (l : Addr) : Args :=
  ⟨[.ref 43, .str x t, .ref f, rawInt 1, rawInt 0, rawInt n, rawInt done, rawInt start, .bool false, .ref l, .bool false], []⟩
theorem sub_call (p : PatAt s.heap) {f : Addr} {x : Str} {t : Tok} {Q : Value → Shared → Prop} (hf : s.TypeIs (.ref f) "function")
    (h : codeAny (model prog w) A (.builtin "re.Pattern.sub.loop" (loopArgs f x t 0 0 0 s.heap.objs.size)) (fun r s' => match r with | .ok (.ret v) => Q v s' | .ok _ => False | .error e => E e s')
      { s with heap := s.heap.push { cls := .type "list", data := .seq #[] } }) :
    wpAny (model prog w) A (call (.builtin "re.Pattern.sub") [.ref 43, .ref f, .str x t]) Q E s := by
  obtain ⟨o, a, t', u, h1, h2, _, h3⟩ := p.pat
  refine wpAny_call (codeAny_call_builtin slot_sub.plain entry_sub (slot_sub.check _ _ _ _ _ _ _ _ ⟨o, h1, h2⟩ (args_sub_3 _ _ _) ?_))
  unfold Builtin.«re.Pattern.sub» reSubstitute
  refine wpAny_bind (wpAny_of_eq (a := [some (.ref f), some (.str x t), none]) rfl ?_)
  simp only
  refine wpAny_bind (wpAny_pure ?_)
  refine wpAny_bind (wpAny_specialOf hf call_fn ?_)
  simp only [Option.isSome_some, if_true]
  refine wpAny_bind (wpAny_pure ?_)
  refine wpAny_bind (wpAny_pure ?_)
  refine wpAny_bind (wpAny_holding (whole_ok p ?_))
  simp only [BEq.rfl, if_true]
  unfold reNotHeld
  refine wpAny_bind ?_
  refine wpAny_bind (wpAny_isInstance (v := .str x t) (T := "str") rfl sub_bytearray ?_)
  simp only [Bool.false_eq_true, if_false]
  refine wpAny_bind (wpAny_pure (wpAny_pure ?_))
  refine wpAny_bind (wpAny_newList ?_)
  exact wpAny_pure ⟨Code.quiet_builtin _ (by decide +kernel), h⟩
theorem slice_ok {x : Str} {b e : Nat} {Q : Value → Shared → Prop} (hs : x.cps.size ≤ 100000) (q : Q (.str ⟨x.cps.extract b e⟩ s.toks) { s with toks := s.toks + 1 }) : wpAny (model prog w) A (reSlice x.cps 0 b e) Q E s := by
  unfold reSlice
  refine wpAny_mkStr q ?_
  show (x.cps.extract b e).size ≤ sizeLine
  rw [Array.size_extract, sizeLine_eq]
  omega
theorem join_one (x : Str) : Txt.join ⟨#[]⟩ [x] = x := StrLaws.glued_eq_join ⟨#[]⟩ [x]
theorem join_two (x y : Str) : Txt.join ⟨#[]⟩ [x, y] = x ++ y := by
  rw [show Txt.join ⟨#[]⟩ [x, y] = Str.join ⟨#[]⟩ [x, y] from StrLaws.glued_eq_join _ _]
  show x ++ ⟨#[]⟩ ++ y = x ++ y
  congr 1
/-- the loop's tail: the pieces are joined -/
theorem tail_ok {x : Str} {l : Addr} {ps : List Value} {ys : List Str} {Q : Fin → Shared → Prop} {ol : Obj} {k : Nat} (hx : x.cps.size ≤ 100000)
    (hl : s.heap.get? l = some ol) (hc : ol.cls = .type "list") (hd : ol.data = .seq ps.toArray k) (hp : StrsAre ps ys) (hys : (ys.map (·.length)).sum ≤ 200000) (hne : ps ≠ [])
    (h : ∀ t' k', Q (.done (.ret (.str (Txt.join ⟨#[]⟩ ys) t'))) { s with toks := k' }) :
    wpAny (model prog w) A (do
      let joiner ← reSlice x.cps 0 0 0
      let __do_lift ← seqItems? (Value.ref l)
      if (__do_lift.getD #[]).isEmpty = true then do
          let __do_lift ← pure joiner
          ret __do_lift
        else do
          let __do_lift ← call (Value.builtin (if (0 == 0) = true then "str.join" else "bytes.join")) [joiner, Value.ref l]
          ret __do_lift) Q E s := by
  refine wpAny_bind (slice_ok hx ?_)
  unfold seqItems?
  refine wpAny_bind (wpAny_bind (wpAny_load hl ?_))
  rw [hd]
  refine wpAny_pure ?_
  have e : ((some ps.toArray).getD #[]).isEmpty = false := by
    cases ps with
    | nil => exact absurd rfl hne
    | cons a r => simp
  rw [e]
  simp only [Bool.false_eq_true, if_false, BEq.rfl, if_true]
  have e2 : x.cps.extract 0 0 = #[] := by simp
  rw [e2]
  refine wpAny_bind (join_list (items := ps.toArray) ⟨ol, hl, hc, k, hd⟩ (by simpa using hp) (by
    have : (⟨#[]⟩ : Str).length = 0 := rfl
    rw [this]; omega) fun t' k' => ?_)
  exact wpAny_pure (h t' k')
/-- the loop's turn that finds nothing: what is left is added, the pieces are joined -/
theorem loop_end (p : PatAt s.heap) {f : Addr} {x : Str} {t : Tok} {n done start : Int} {l : Addr} {ps : List Value} {ys : List Str} {Q : Value → Shared → Prop} {ol : Obj} {k : Nat}
    (hx : x.cps.size ≤ 100000)
    (hl : s.heap.get? l = some ol) (hc : ol.cls = .type "list") (hd : ol.data = .seq ps.toArray k) (hp : StrsAre ps ys) (hys : (ys.map (·.length)).sum ≤ 200000) (hne : ps ≠ []) (hdone : x.cps.size ≤ done.toNat)
    (hno : ∀ (R : Option Sre.M → Shared → Prop) (s' : Shared), R none s' → wpAny (model prog w) A.in1 (reRunToEnd (Sre.forSearch rc x.cps 1 start.toNat x.cps.size false)) R (fun e s' => E e s') s')
    (h : ∀ t' k', Q (.str (Txt.join ⟨#[]⟩ ys) t') { s with toks := k' }) :
    codeAny (model prog w) A (.builtin "re.Pattern.sub.loop" (loopArgs f x t n done start l)) (fun r s' => match r with | .ok (.ret v) => Q v s' | .ok _ => False | .error e => E e s') s := by
  refine codeAny_builtin entry_loop ?_
  rw [Around.under_plainId plain_loop]
  unfold Builtin.«re.Pattern.sub.loop»
  simp only [rawInt]
  refine wpAny_bind (whole_ok p ?_)
  simp only [show ((1 : Int) == 0) = false from rfl, show ((0 : Int) != 0) = false from rfl, Bool.false_and, Bool.false_eq_true, if_false]
  refine wpAny_bind (hno _ _ ?_)
  simp only [show ¬ (done.toNat < x.cps.size) from Nat.not_lt.mpr hdone, if_false]
  exact tail_ok hx hl hc hd hp hys hne h
/-- the first turn that finds nothing -/
theorem loop_none (p : PatAt s.heap) {f : Addr} {x : Str} {t : Tok} {l : Addr} {Q : Value → Shared → Prop} {ol : Obj} {k : Nat} (hx : x.cps.size ≤ 100000) (hx0 : 0 < x.cps.size)
    (hl : s.heap.get? l = some ol) (hc : ol.cls = .type "list") (hd : ol.data = .seq #[] k)
    (hno : ∀ (R : Option Sre.M → Shared → Prop) (s' : Shared), R none s' → wpAny (model prog w) A.in1 (reRunToEnd (Sre.forSearch rc x.cps 1 0 x.cps.size false)) R (fun e s' => E e s') s')
    (h : ∀ t' k' h', Heap.SameBut l s.heap h' → Q (.str x t') { s with heap := h', toks := k' }) :
    codeAny (model prog w) A (.builtin "re.Pattern.sub.loop" (loopArgs f x t 0 0 0 l)) (fun r s' => match r with | .ok (.ret v) => Q v s' | .ok _ => False | .error e => E e s') s := by
  refine codeAny_builtin entry_loop ?_
  rw [Around.under_plainId plain_loop]
  unfold Builtin.«re.Pattern.sub.loop»
  simp only [rawInt]
  refine wpAny_bind (whole_ok p ?_)
  simp only [show ((1 : Int) == 0) = false from rfl, show ((0 : Int) != 0) = false from rfl, Bool.false_and, Bool.false_eq_true, if_false]
  refine wpAny_bind (hno _ _ ?_)
  simp only [show (0 : Int).toNat = 0 from rfl, hx0, if_true]
  refine wpAny_bind (slice_ok hx ?_)
  have e0 : x.cps.extract 0 x.cps.size = x.cps := by simp
  rw [e0]
  refine wpAny_bind (wpAny_updateSeq (o := ol) (xs := #[]) (n := k) hl hd ?_)
  obtain ⟨c, d, dt, sl⟩ := ol
  simp only at hc hd
  subst hc hd
  refine tail_ok (ol := Obj.mapSeq (fun y => y.push (Value.str { cps := x.cps } s.toks)) ⟨.type "list", d, .seq #[] k, sl⟩) (ps := [.str x s.toks]) (ys := [x]) hx (Heap.get?_update_self _ hl rfl) rfl rfl (.cons x _ .nil) ?_ (by simp) fun t' k' => ?_
  · show ([x].map (·.length)).sum ≤ 200000
    simp only [List.map_cons, List.map_nil, List.sum_cons, List.sum_nil]
    show x.cps.size + 0 ≤ 200000
    omega
  · have e1 : Txt.join ⟨#[]⟩ [x] = x := join_one x
    rw [e1]
    exact h _ _ _ (Heap.SameBut.update ..)
abbrev spanObj (b e g : Nat) : Obj := { cls := .type "tuple", data := .seq #[rawInt b, rawInt e, rawInt g, rawInt e] }
abbrev matchObj (x : Str) (t : Tok) (tp : Addr) : Obj := { cls := .type "re.Match", data := .fields #[.str x t, .ref 43, rawInt 0, rawInt x.cps.size, rawInt 1, .ref tp] }
/-- what the replacing function hands back -/
def SubBack (h₀ : Heap) (L : Addr) (m : Str → Option Value) (s : Shared) (news : List (Addr × Obj)) (g : Str) (v : Value) (s' : Shared) : Prop :=
  ∃ u h1 tk1, v = .str g u ∧ s' = { s with heap := h1, toks := tk1 } ∧ Fr h₀ L h1 m ∧ News h₀ L h1 news
theorem newMatch_ok {M₁ : Sre.M} {x : Str} {t : Tok} {b e g : Nat} {Q : Value → Shared → Prop} (m1 : M₁.start = b) (m2 : M₁.handed = e) (m3 : M₁.lastmark = 1) (m4 : M₁.lastindex = 1) (m5 : M₁.marks = #[some g, some e]) (hg : g ≤ e)
    (h : Q (.ref (s.heap.push (spanObj b e g)).objs.size) { s with heap := (s.heap.push (spanObj b e g)).push (matchObj x t s.heap.objs.size) }) : wpAny (model prog w) A (reNewMatch (.ref 43) (.str x t) 1 0 x.cps.size M₁) Q E s := by
  unfold reNewMatch
  have a0 : (#[some g, some e] : Array (Option Nat)).getD 0 none = some g := rfl
  have a1 : (#[some g, some e] : Array (Option Nat)).getD 1 none = some e := rfl
  have hlt : decide (e < g) = false := decide_eq_false (by omega)
  have h11 : ((1 : Nat) : Int) ≤ 1 := by decide
  simp only [List.range_one, List.flatMap_cons, List.flatMap_nil, List.any_cons, List.any_nil, m3, m5, m4, Nat.mul_zero, Nat.zero_add, a0, a1, h11, if_true, hlt, Bool.and_false, Bool.or_self, Bool.false_eq_true, if_false, List.append_nil, m1, m2]
  refine wpAny_bind (wpAny_newTuple ?_)
  exact wpAny_newObj_type h
/-- the first turn that finds a match up to the end -/
theorem loop_yes {h₀ : Heap} {L : Addr} {m : Str → Option Value} {news : List (Addr × Obj)} (p : PatAt h₀) {f : Addr} {x g : Str} {t : Tok} {l : Addr} {Q : Value → Shared → Prop} {b g0 : Nat} {ol : Obj} {k : Nat}
    (F : Fr h₀ L s.heap m) (N : News h₀ L s.heap ((l, ol) :: news)) (hl : ∀ p ∈ news, p.1 ≠ l) (hc : ol.cls = .type "list") (hd : ol.data = .seq #[] k)
    (hx : x.cps.size ≤ 100000) (hb0 : 0 < b) (hb : b < x.cps.size) (hg0 : g0 ≤ x.cps.size) (hg : g.length ≤ 100000)
    (hyes : ∀ (R : Option Sre.M → Shared → Prop) (s' : Shared), (∀ m : Sre.M, m.start = b → m.handed = x.cps.size → m.lastmark = 1 → m.lastindex = 1 → m.marks = #[some g0, some x.cps.size] → R (some m) s') →
      wpAny (model prog w) A.in1 (reRunToEnd (Sre.forSearch rc x.cps 1 0 x.cps.size false)) R (fun e s' => E e s') s')
    (hno : ∀ (R : Option Sre.M → Shared → Prop) (s' : Shared), R none s' → wpAny (model prog w) A.in1 (reRunToEnd (Sre.forSearch rc x.cps 1 x.cps.size x.cps.size false)) R (fun e s' => E e s') s')
    (cb : ∀ (mt tp : Addr) (h' : Heap) (tk' : Nat) (lo : Obj), Fr h₀ L h' m → News h₀ L h' ((mt, matchObj x t tp) :: (tp, spanObj b x.cps.size g0) :: (l, lo) :: news) →
      wpAny (model prog w) A.in1 (call (.ref f) [.ref mt]) (SubBack h₀ L m s ((l, lo) :: news) g) (fun e s' => E e s') { s with heap := h', toks := tk' })
    (h : ∀ t' h' tk', Fr h₀ L h' m → News h₀ L h' news → Q (.str ((⟨x.cps.extract 0 b⟩ : Str) ++ g) t') { s with heap := h', toks := tk' }) :
    codeAny (model prog w) A (.builtin "re.Pattern.sub.loop" (loopArgs f x t 0 0 0 l)) (fun r s' => match r with | .ok (.ret v) => Q v s' | .ok _ => False | .error e => E e s') s := by
  refine codeAny_builtin entry_loop ?_
  rw [Around.under_plainId plain_loop]
  unfold Builtin.«re.Pattern.sub.loop»
  simp only [rawInt]
  refine wpAny_bind (whole_ok (p.keeps F.keep) ?_)
  simp only [show ((1 : Int) == 0) = false from rfl, show ((0 : Int) != 0) = false from rfl, Bool.false_and, Bool.false_eq_true, if_false]
  refine wpAny_bind (hyes _ _ fun M₁ m1 m2 m3 m4 m5 => ?_)
  simp only [show (0 : Int).toNat = 0 from rfl, m1, hb0, if_true, m2]
  refine wpAny_bind (slice_ok hx ?_)
  obtain ⟨c, d, dt, sl⟩ := ol
  simp only at hc hd
  subst hc hd
  refine wpAny_bind (wpAny_updateSeq (o := ⟨.type "list", d, .seq #[] k, sl⟩) (xs := #[]) (n := k) (N _ (.head _)).1 rfl ?_)
  obtain ⟨F1, N1⟩ := news_upd (pre := []) (post := news) (f := Obj.mapSeq fun y => y.push (Value.str { cps := x.cps.extract 0 b } s.toks)) F N (fun _ hq => nomatch hq) hl rfl rfl
  refine wpAny_bind (newMatch_ok m1 m2 m3 m4 m5 hg0 ?_)
  have F2 := F1.push (spanObj b x.cps.size g0)
  have N2 := N1.push F1 (spanObj b x.cps.size g0)
  have F3 := F2.push (matchObj x t (s.heap.update l (Obj.mapSeq fun y => y.push (Value.str { cps := x.cps.extract 0 b } s.toks))).objs.size)
  have N3 := N2.push F2 (matchObj x t (s.heap.update l (Obj.mapSeq fun y => y.push (Value.str { cps := x.cps.extract 0 b } s.toks))).objs.size)
  refine wpAny_bind (wpAny_holding ?_)
  simp only [BEq.rfl, if_true]
  refine wpAny_mono (cb _ _ _ _ _ F3 N3) (fun v s' hv => ?_) fun _ _ e => e
  obtain ⟨u, h1, tk1, rfl, rfl, F4, N4⟩ := hv
  have hne : (Value.str g u != Value.none) = true := rfl
  simp only [hne, if_true]
  obtain ⟨F5, N5⟩ := news_upd (pre := []) (post := news) (f := Obj.mapSeq fun y => y.push (Value.str g u)) F4 N4 (fun _ hq => nomatch hq) hl rfl rfl
  refine wpAny_bind (wpAny_updateSeq (xs := #[.str { cps := x.cps.extract 0 b } s.toks]) (n := k + 1) (N4 _ (.head _)).1 rfl ?_)
  have hne2 : (x.cps.size == b) = false := beq_eq_false_iff_ne.mpr (by omega)
  rw [hne2]
  refine wpAny_pure ⟨Code.quiet_builtin _ (by decide +kernel), ?_⟩
  refine loop_end (ps := [.str { cps := x.cps.extract 0 b } s.toks, .str g u]) (ys := [⟨x.cps.extract 0 b⟩, g]) (p.keeps F5.keep) hx (N5 _ (.head _)).1 rfl rfl (.cons _ _ (.cons _ _ .nil)) ?_ (by simp) (by simp) (by simpa using hno) fun t' k' => ?_
  · simp only [List.map_cons, List.map_nil, List.sum_cons, List.sum_nil]
    have : (⟨x.cps.extract 0 b⟩ : Str).length ≤ 100000 := by
      show (x.cps.extract 0 b).size ≤ 100000
      rw [Array.size_extract]; omega
    omega
  · rw [join_two]
    exact h _ _ _ F5 fun q hq => N5 q (.tail _ hq)
/-- m.group(1) -/
theorem group_ok {mt tp : Addr} {x : Str} {t u : Tok} {b g : Nat} {Q : Value → Shared → Prop} (hm : s.heap.get? mt = some (matchObj x t tp)) (ht : s.heap.get? tp = some (spanObj b x.cps.size g)) (hx : x.cps.size ≤ 100000)
    (h : Q (.str ⟨x.cps.extract g x.cps.size⟩ s.toks) { s with toks := s.toks + 1 }) :
    wpAny (model prog w) A (call (.builtin "re.Match.group") [.ref mt, .int 1 u]) Q E s := by
  refine wpAny_call (codeAny_call_builtin slot_group.plain entry_group (slot_group.check _ _ _ _ _ _ _ _ ⟨_, hm, rfl⟩ (args_group_2 _ _) ?_))
  unfold Builtin.«re.Match.group» noKeywords
  refine wpAny_bind (wpAny_pure ?_)
  simp only
  unfold reFound
  refine wpAny_bind (wpAny_bind (wpAny_fieldsOf hm rfl ?_))
  unfold reRawItems seqItems?
  refine wpAny_bind (wpAny_bind (wpAny_bind (wpAny_load ht ?_)))
  refine wpAny_pure (wpAny_pure ?_)
  refine wpAny_pure ?_
  have es : Array.map reRawOf ((some #[rawInt b, rawInt x.cps.size, rawInt g, rawInt x.cps.size]).getD #[]) = #[(b : Int), (x.cps.size : Int), (g : Int), (x.cps.size : Int)] := by simp [reRawOf, rawInt]
  rw [es]
  refine wpAny_bind (wpAny_of_eq (a := 1) rfl ?_)
  unfold reGroupText
  have e2 : ¬ ((g : Int) < 0 ∨ (x.cps.size : Int) < 0) := by omega
  show wpAny (model prog w) A.in1 ((if (decide ((g : Int) < 0) || decide ((x.cps.size : Int) < 0)) = true then pure Value.none else _) >>= _) _ _ _
  rw [if_neg (by simp only [Bool.or_eq_true, decide_eq_true_eq]; exact e2)]
  unfold reTextOf
  refine wpAny_bind (wpAny_bind (wpAny_bind (wpAny_pure ?_)))
  refine wpAny_pure ?_
  refine slice_ok hx ?_
  exact wpAny_pure h
/-- re.Pattern.sub that finds nothing -/
theorem sub_none {h₀ : Heap} {L : Addr} {m : Str → Option Value} {news : List (Addr × Obj)} (p : PatAt h₀) {f : Addr} {x : Str} {t : Tok} {Q : Value → Shared → Prop}
    (F : Fr h₀ L s.heap m) (N : News h₀ L s.heap news) (hf : s.TypeIs (.ref f) "function") (hx : x.cps.size ≤ 100000) (hx0 : 0 < x.cps.size)
    (hno : ∀ (R : Option Sre.M → Shared → Prop) (s' : Shared), R none s' → wpAny (model prog w) A.in1 (reRunToEnd (Sre.forSearch rc x.cps 1 0 x.cps.size false)) R (fun e s' => E e s') s')
    (h : ∀ t' h' tk', Fr h₀ L h' m → News h₀ L h' news → Q (.str x t') { s with heap := h', toks := tk' }) :
    wpAny (model prog w) A (call (.builtin "re.Pattern.sub") [.ref 43, .ref f, .str x t]) Q E s := by
  refine sub_call (p.keeps F.keep) hf ?_
  refine loop_none (ol := { cls := .type "list", data := .seq #[] }) (p.keeps (F.push _).keep) hx hx0 (Heap.get?_push_size _ rfl) rfl rfl hno fun t' k' h' hs => ?_
  exact h t' h' k' (F.filled hs) fun q hq => ⟨(hs.2 q.1 (Nat.ne_of_lt (Heap.lt_size (N q hq).1))).trans (Heap.get?_push_of_some _ (N q hq).1), (N q hq).2⟩
/-- re.Pattern.sub that finds one match, up to the end -/
theorem sub_some {h₀ : Heap} {L : Addr} {m : Str → Option Value} {news : List (Addr × Obj)} (p : PatAt h₀) {f : Addr} {x g : Str} {t : Tok} {Q : Value → Shared → Prop} {b g0 : Nat}
    (F : Fr h₀ L s.heap m) (N : News h₀ L s.heap news) (hf : s.TypeIs (.ref f) "function") (hx : x.cps.size ≤ 100000) (hb0 : 0 < b) (hb : b < x.cps.size) (hg0 : g0 ≤ x.cps.size) (hg : g.length ≤ 100000)
    (hyes : ∀ (R : Option Sre.M → Shared → Prop) (s' : Shared), (∀ m : Sre.M, m.start = b → m.handed = x.cps.size → m.lastmark = 1 → m.lastindex = 1 → m.marks = #[some g0, some x.cps.size] → R (some m) s') →
      wpAny (model prog w) A.in1 (reRunToEnd (Sre.forSearch rc x.cps 1 0 x.cps.size false)) R (fun e s' => E e s') s')
    (hno : ∀ (R : Option Sre.M → Shared → Prop) (s' : Shared), R none s' → wpAny (model prog w) A.in1 (reRunToEnd (Sre.forSearch rc x.cps 1 x.cps.size x.cps.size false)) R (fun e s' => E e s') s')
    (cb : ∀ (mt tp l : Addr) (h' : Heap) (tk' : Nat) (lo : Obj), Fr h₀ L h' m → News h₀ L h' ((mt, matchObj x t tp) :: (tp, spanObj b x.cps.size g0) :: (l, lo) :: news) →
      wpAny (model prog w) A.in1 (call (.ref f) [.ref mt]) (SubBack h₀ L m s ((l, lo) :: news) g) (fun e s' => E e s') { s with heap := h', toks := tk' })
    (h : ∀ t' h' tk', Fr h₀ L h' m → News h₀ L h' news → Q (.str ((⟨x.cps.extract 0 b⟩ : Str) ++ g) t') { s with heap := h', toks := tk' }) :
    wpAny (model prog w) A (call (.builtin "re.Pattern.sub") [.ref 43, .ref f, .str x t]) Q E s := by
  refine sub_call (p.keeps F.keep) hf ?_
  refine loop_yes (ol := { cls := .type "list", data := .seq #[] }) p (F.push _) (N.push F _) (fun q hq => Nat.ne_of_lt (Heap.lt_size (N q hq).1)) rfl rfl hx hb0 hb hg0 hg hyes hno (fun mt tp h' tk' lo F' N' => ?_) fun t' h' tk' F' N' => h t' h' tk' F' N'
  refine wpAny_mono (cb mt tp _ h' tk' lo F' N') (fun v s' hv => ?_) fun _ _ e => e
  obtain ⟨u, h1, tk1, rfl, rfl, F4, N4⟩ := hv
  exact ⟨u, h1, tk1, rfl, rfl, F4, N4⟩
end
end
open PySem PySem.Calls PyProof.Rows PySem.W
local macro_rules | `(tactic| k_steps) => `(tactic| repeat' ((fail_if_success (with_reducible show Hold _)); first | (k_unfold; (try dsimp only)) | (k_end; kc_close) | walk1 | (dsimp only; walk1) | (leave1; walk_say "STEP leave1"; (try dsimp only)) | fail "no step"))
local macro_rules | `(tactic| walk_at $s:str) => `(tactic| k_extra $s)
-- part R5
section
open PySem PySem.Builtin PySem.Builtin.Re PySem.Calls PyProof.Rows PySem.W
/-- what stripid makes of a text -/
inductive Strip (x : Str) : Str → Prop
  | no : (∀ p, p < x.cps.size → okc (x.cps.getD p 0) = true) → 13 ≤ x.cps.size → x.cps.size ≤ 100000 → (∀ t, t ≤ x.cps.size → Fails x.cps t) → Strip x x
  | yes (b : Nat) : (∀ p, p < x.cps.size → okc (x.cps.getD p 0) = true) → 13 ≤ x.cps.size → x.cps.size ≤ 100000 → 0 < b → b < x.cps.size → litsAt x.cps b → 6 ≤ hexAt x.cps (b + 6) → 1 ≤ gtAt x.cps (b + 6 + hexAt x.cps (b + 6)) →
      b + 6 + hexAt x.cps (b + 6) + gtAt x.cps (b + 6 + hexAt x.cps (b + 6)) = x.cps.size → (∀ u, u < b → Fails x.cps u) →
      Strip x (⟨x.cps.extract 0 b⟩ ++ ⟨x.cps.extract (b + 6 + hexAt x.cps (b + 6)) x.cps.size⟩)
/-- stripid's table of code objects: empty, or the lambda's -/
def StripTab (ps : Array Value) (ext : List (Addr × Obj)) : Prop :=
  (ps = #[] ∧ ext = []) ∨ ∃ c' oc vs t, ps = #[rawInt 27, rawInt 27, .ref c'] ∧ ext = [(c', oc)] ∧ oc.data = .fields vs ∧ vs[1]? = some (.str (Str.ofString "stripid.<locals>.<lambda>") t)
/-- how the table goes on: it is filled, and once filled it stays; what is new lies above the ledger -/
structure TabNext (news : List (Addr × Obj)) (ps : Array Value) (ext : List (Addr × Obj)) (ps' : Array Value) (ext' : List (Addr × Obj)) : Prop where
  tab : StripTab ps' ext'
  full : ext' ≠ []
  same : ext ≠ [] → ps' = ps ∧ ext' = ext
  above : ∀ q ∈ ext', q ∈ ext ∨ ∀ p ∈ news, p.1 < q.1
theorem TabNext.mono {news news' a b a' b'} (x : TabNext news a b a' b') (h : ∀ p ∈ news', p ∈ news) : TabNext news' a b a' b' :=
  ⟨x.tab, x.full, x.same, fun q hq => (x.above q hq).imp id fun k p hp => k p (h p hp)⟩
theorem TabNext.trans {news news' a b a' b' a'' b''} (x : TabNext news a b a' b') (y : TabNext news' a' b' a'' b'') : TabNext news a b a'' b'' := by
  obtain ⟨e1, e2⟩ := y.same x.full
  subst e1 e2
  exact x
theorem PatAt.of_K {w : World} {h : Heap} (X : (hd.heap_39 w.params).In h) : PatAt h := by
  refine ⟨⟨_, _, _, _, X 43 _ (by with_unfolding_all rfl), rfl, rfl, rfl⟩, ⟨_, 0, X 42 _ (by with_unfolding_all rfl), ?_⟩⟩
  simp [rc]
theorem linesR5 : True := by
  w_top off
  k_with_none
  k_with "getMethod ref" => (refine Hold.out ?_)
  k_with "eval Name" => (k_here; k_dflt (refine' nameX_L ?F ?v ?_ ?a ?b; (case F => k_asm); (case a => rfl); (case b => rfl); (case v => rfl); k_whole))
  k_with "callWith ref" => (k_here; k_dflt (refine' callWith_K ?k1 ?k2 ?_; (case k1 => k_asm); (case k2 => k_is); k_whole))
  trivial
theorem okc_of {x : Str} {y : Str} (h : Strip x y) : x.cps.size ≤ 100000 := by cases h <;> assumption
section
variable {M : Model} {A : Around} {E : Value → Shared → Prop} {s : Shared} {h₀ : Heap} {L a : Addr} {m mg mb : Str → Option Value} {cn : Str} {cs : Scope} {ccd : Value} {cl : List (Str × Addr)} {rest ext : List (Addr × Obj)}
  {p : Program} {loose : List Str} {mean : ExcName → Option Value} {name qual : Str} {params : Arguments} {body : Expr} {scope : Scope} {ps : Array Value} {pos : Pos} {firstLine : Nat}
theorem kla_both {Q : Value → Shared → Prop} (hTab : StripTab ps ext) (F : Fr h₀ L s.heap m) (N : News h₀ L s.heap ((45, tabObj ps) :: (ext ++ rest))) (T : Top p loose mean mg mb h₀) (C : CodeHd h₀ 49 45) (hrest : ∀ p ∈ rest, p.1 ≠ 45)
    (hcd : ccd = .ref 49) (hp1 : pos.line = 27) (hp2 : pos.col = 27) (hq : qual = Str.ofString "stripid.<locals>.<lambda>")
    (hcl : closureFor scope (envX cn cs L a ccd cl) = pure [])
    (h : ∀ f c' oc vs t ctv h' tk, Fr h₀ L h' m →
      News h₀ L h' ((f, kla_obj name qual params body scope [] ((mg "__name__").getD .none) c' ctv) :: (c', oc) :: (45, tabObj #[rawInt 27, rawInt 27, .ref c']) :: rest) →
      oc.data = .fields vs → vs[1]? = some (.str qual t) → TabNext ((45, tabObj ps) :: (ext ++ rest)) ps ext #[rawInt 27, rawInt 27, .ref c'] [(c', oc)] → Q (.ref f) { s with heap := h', toks := tk }) :
    wpAny M A (makeFunction name qual params (.expr body) scope (envX cn cs L a ccd cl) [] [] [] pos firstLine) Q E s := by
  obtain ⟨ln, co, el, ec⟩ := pos
  simp only at hp1 hp2
  subst hp1 hp2
  rcases hTab with ⟨rfl, rfl⟩ | ⟨c', oc, vs, t, rfl, rfl, hoc, hvs⟩
  · refine kla_nest F N T C hcd (UpdF.head (by simpa using hrest)) True.intro rfl hcl fun f c' oc vs t ctv h' tk F' N' d1 d2 l1 l2 => ?_
    exact h f c' oc vs t ctv h' tk F' N' d1 d2 ⟨.inr ⟨c', oc, vs, t, rfl, rfl, d1, by rw [← hq]; exact d2⟩, by simp, fun q => absurd rfl q, fun q hq => by rcases List.mem_singleton.mp hq with rfl; exact .inr l1⟩
  · have N2 : News h₀ L s.heap ((c', oc) :: (45, tabObj #[rawInt 27, rawInt 27, .ref c']) :: rest) := fun q hq => by
      rcases List.mem_cons.mp hq with rfl | hq
      · exact N _ (.tail _ (.head _))
      · rcases List.mem_cons.mp hq with rfl | hq
        · exact N _ (.head _)
        · exact N _ (.tail _ (.tail _ hq))
    refine kla_hit F N2 T C hcd (.tail _ (.head _)) (by simp [TriplesOk, rawInt]) (by rfl) hcl fun f ctv h' tk F' N' l1 => ?_
    exact h f c' oc vs t ctv h' tk F' N' hoc (by rw [hq]; exact hvs) ⟨.inr ⟨c', oc, vs, t, rfl, rfl, hoc, hvs⟩, by simp, fun _ => ⟨rfl, rfl⟩, fun q hq => .inl hq⟩
end
theorem ofe_append (g : Str) : Str.ofString "" ++ g = g := by
  show (⟨(Str.ofString "").cps ++ g.cps⟩ : Str) = g
  rw [show (Str.ofString "").cps = #[] from rfl, Array.empty_append]
set_option maxHeartbeats 8000000 in
theorem strip_ok (w : World) (mean : ExcName → Option Value) (mg mb : Str → Option Value) (loose : List Str) (rest ext : List (Addr × Obj)) (ps : Array Value) (x y : Str) (tx : Tok) (hS : Strip x y) (hTab : StripTab ps ext) (hrest : ∀ p ∈ rest, p.1 ≠ 45)
    (dp un : Nat) (gd : Option (List Code)) (cn : Str) (cs : Scope) (a : Addr) (ccd : Value) (cl : List (Str × Addr)) (outer : List Env) (A₀ : Around) (base h₀ : Heap) (L : Addr) (m : Str → Option Value) (s : Shared) (Q E : Value → Shared → Prop)
    (hB : Below A₀ base outer h₀) (hF : Fr h₀ L s.heap m) (hX : (hd.heap_39 w.params).In h₀) (hN : News h₀ L s.heap ((45, tabObj ps) :: (ext ++ rest))) (hT : Top topProg loose mean mg mb h₀) (hC : CodeHd h₀ 49 45) (hk : cs.kind = .function)
    (hdp : dp + 4 < recursionLimit) (hun : un + 30 < cLine)
    (hret : ∀ (t : Tok) (h' : Heap) (tk' : Nat) (ps' : Array Value) (ext' : List (Addr × Obj)), TabNext ((45, tabObj ps) :: (ext ++ rest)) ps ext ps' ext' → Fr h₀ L h' m → News h₀ L h' ((45, tabObj ps') :: (ext' ++ rest)) → Q (.str y t) { s with heap := h', toks := tk' }) :
    wpAny (model PySem.Challenge.rw_wb0014_01.row.prog w) (ktrTop dp un gd cn cs L a ccd cl outer) (call (.ref 50) [.str x tx]) Q E s := by
  revert hX
  k_fill
  intro hX
  refine wpAny_call ?_
  k_dflt cell_enter
  k_steps
  unfold Hold
  refine getMethod_builtin (T := "re.Pattern") ⟨_, (by assumption : (hd.heap_39 w.params).In _) |>.keeps (Fr.keep (by k_asm)) 43 _ (by with_unfolding_all rfl), rfl⟩ plainAttrs_pat slot_sub type_sub (fun a e => by cases e; exact ⟨_, (by assumption : (hd.heap_39 w.params).In _) |>.keeps (Fr.keep (by k_asm)) 43 _ (by with_unfolding_all rfl), rfl⟩) ?_
  k_steps
  refine kla_eval rfl ?_
  refine kla_both hTab (by k_asm) (by k_asm) (by k_asm) (hC.keeps (Fr.keep (by assumption))) hrest rfl rfl rfl rfl rfl ?_
  intro f' c' oc' vs' t' ct' h' tk' F' N' d1' d2' hnx
  k_steps
  have hp43 : PatAt _ := PatAt.of_K (by assumption)
  cases hS with
  | no hT' h13 hsz hF' =>
    refine sub_none hp43 (by k_asm) (by k_asm) ⟨_, (by k_asm : News _ _ _ _).get (.head _), rfl⟩ hsz (by omega) (fun R s' h => found_no hT' h13 hsz hF' h) fun t9 h9 tk9 F9 N9 => ?_
    k_steps
    rename News h₀ L _ _ => N10
    refine hret t9 _ _ _ [(c', oc')] hnx (by k_asm) (fun q hq => ?_)
    refine N10 q ?_
    rcases List.mem_cons.mp hq with rfl | hq
    · exact .tail _ (.tail _ (.head _))
    · rcases List.mem_append.mp hq with hq | hq
      · rcases List.mem_singleton.mp hq with rfl
        exact .tail _ (.head _)
      · exact .tail _ (.tail _ (.tail _ hq))
  | yes b hT' h13 hsz hb0 hb hl h6 h1 he hF' =>
    generalize hg9 : (⟨x.cps.extract (b + 6 + hexAt x.cps (b + 6)) x.cps.size⟩ : Str) = g9 at *
    generalize hp9 : (⟨x.cps.extract 0 b⟩ : Str) = p9 at *
    have hgl : g9.length ≤ 100000 := by rw [← hg9]; show (x.cps.extract (b + 6 + hexAt x.cps (b + 6)) x.cps.size).size ≤ 100000; rw [Array.size_extract]; omega
    have hgl0 : 1 ≤ g9.length := by rw [← hg9]; show 1 ≤ (x.cps.extract (b + 6 + hexAt x.cps (b + 6)) x.cps.size).size; rw [Array.size_extract]; omega
    refine sub_some (g := g9) hp43 (by k_asm) (by k_asm) ⟨_, (by k_asm : News _ _ _ _).get (.head _), rfl⟩ hsz hb0 hb (by omega) hgl
      (fun R s' h => found_yes hT' h13 hsz hb hl h6 h1 he hF' h) (fun R s' h => found_end (by omega) h) (fun mt tp l h9 tk9 lo F9 N9 => ?_) fun t9 h9 tk9 F9 N9 => ?_
    · refine wpAny_call ?_
      k_dflt (refine' kla_code ?k1 ?k2 ?k3 ?k4 ?k5 ?kA ?kF ?kK ?k6 ?k7 ?k8 ?k9 ?kB ?_ ?c2 ?c3 ?c4 ?c5; (case kA => exact rfl); (case kF => exact rfl); (case kK => exact rfl); (case k1 => k_asm); (case k2 => k_asm); (case k3 => k_asm); (case k4 => k_asm); (case k5 => k_asm); (case k6 => k_mem); (case k7 => exact codeRec_news (by k_asm) (by k_mem) (by assumption) (by assumption)); (case k8 => (show dp + 1 < recursionLimit; omega)); (case k9 => exact rfl); (case c5 => decide); (case kB => exact locs rfl); (case c2 => exact rfl); (case c3 => exact rfl); (case c4 => exact rfl); k_whole; intro g' L' h' FG' F' N' B' X' T'; (try dsimp only); (try k_lift B'); (try k_fold))
      k_steps
      unfold Hold
      refine getMethod_builtin (T := "re.Match") ⟨_, (by k_asm : News _ _ _ _).get (.head _), rfl⟩ plainAttrs_match slot_group type_group (fun a e => by cases e; exact ⟨_, (by k_asm : News _ _ _ _).get (.head _), rfl⟩) ?_
      k_steps
      refine group_ok (g := b + 6 + hexAt x.cps (b + 6)) (b := b) (tp := tp) (x := x) (t := tx) ((by k_asm : News _ _ _ _).get (.head _)) ((by k_asm : News _ _ _ _).get (.tail _ (.head _))) hsz ?_
      rw [hg9]
      k_steps
      · rename News _ _ _ _ => N10
        exact ⟨_, _, _, by rw [ofe_append], rfl, by k_asm, fun q hq => N10 q (.tail _ (.tail _ hq))⟩
      · exfalso; omega
    · rw [hp9]
      k_steps
      rename News h₀ L _ _ => N10
      refine hret t9 _ _ _ [(c', oc')] hnx (by k_asm) (fun q hq => ?_)
      refine N10 q ?_
      rcases List.mem_cons.mp hq with rfl | hq
      · exact .tail _ (.tail _ (.head _))
      · rcases List.mem_append.mp hq with hq | hq
        · rcases List.mem_singleton.mp hq with rfl
          exact .tail _ (.head _)
        · exact .tail _ (.tail _ (.tail _ hq))
end
-- part N0
section
open PySem PySem.Calls PyProof.Rows PySem.W
/-- one wrapping's end: a bare bracket, or an id of figures and a bracket -/
def segL : Option (List Nat) → List Nat
  | none => [62]
  | some h => lits ++ h ++ [62]
/-- a nest's text -/
def rendL (core : List Nat) (segs : List (Option (List Nat))) : List Nat := List.replicate segs.length 60 ++ (core ++ segs.flatMap segL)
def rend (core : List Nat) (segs : List (Option (List Nat))) : Str := ⟨(rendL core segs).toArray⟩
/-- the last id goes -/
noncomputable def stripL : List (Option (List Nat)) → List (Option (List Nat))
  | [] => []
  | s :: r => if r.any Option.isSome then s :: stripL r else none :: r
def ids (segs : List (Option (List Nat))) : Nat := segs.countP Option.isSome
def core5 : List Nat := [60, 48, 32, 97, 116, 32, 48, 120, 49, 50, 51, 52, 53, 62]
def core17 : List Nat := [60, 48, 32, 97, 116, 32, 48, 120, 48, 49, 50, 51, 52, 53, 54, 55, 56, 57, 97, 98, 99, 100, 101, 102, 48, 62]
structure WF (core : List Nat) (segs : List (Option (List Nat))) : Prop where
  c : core = core5 ∨ core = core17
  h : ∀ h, some h ∈ segs → 6 ≤ h.length ∧ h.length ≤ 16 ∧ ∀ c ∈ h, hexc c = true
  n : segs.length ≤ 40
theorem stripL_length : ∀ l, (stripL l).length = l.length
  | [] => rfl
  | s :: r => by
    rw [stripL]; split
    · rw [List.length_cons, List.length_cons, stripL_length r]
    · rfl
theorem stripL_mem : ∀ l h, some h ∈ stripL l → some h ∈ l
  | [], _, q => nomatch q
  | s :: r, h, q => by
    rw [stripL] at q
    split at q
    · rcases List.mem_cons.mp q with e | q
      · rw [e]; exact .head _
      · exact .tail _ (stripL_mem r h q)
    · rcases List.mem_cons.mp q with e | q
      · cases e
      · exact .tail _ q
theorem WF.strip {core segs} (x : WF core segs) : WF core (stripL segs) := ⟨x.c, fun h q => x.h h (stripL_mem _ _ q), by rw [stripL_length]; exact x.n⟩
theorem stripL_none : ∀ l, ids l = 0 → stripL l = l
  | [], _ => rfl
  | s :: r, h => by
    have hr : ids r = 0 := by
      unfold ids at h ⊢; rw [List.countP_cons] at h; omega
    have hs : s.isSome = false := by
      unfold ids at h; rw [List.countP_cons] at h
      cases hs : s.isSome with
      | false => rfl
      | true => rw [hs] at h; simp at h
    have ha : r.any Option.isSome = false := by
      cases hq : r.any Option.isSome with
      | false => rfl
      | true =>
        obtain ⟨x, hx, hx2⟩ := List.any_eq_true.mp hq
        have : 0 < r.countP Option.isSome := List.countP_pos_iff.mpr ⟨x, hx, hx2⟩
        unfold ids at hr; omega
    rw [stripL, ha]
    cases s with
    | none => rfl
    | some v => cases hs
/-- a match that ends at the text's end -/
def MatchL (u : List Nat) : Prop := ∃ h g, u = lits ++ (h ++ List.replicate g 62) ∧ 6 ≤ h.length ∧ h.length ≤ 16 ∧ (∀ c ∈ h, hexc c = true) ∧ 1 ≤ g
theorem runOf_at (b : Nat → Bool) (T : Array Nat) : ∀ n p i, i < runOf b T n p → b (T.getD (p + i) 0) = true
  | 0, p, i, h => absurd h (Nat.not_lt_zero _)
  | n + 1, p, i, h => by
    rw [runOf] at h
    split at h
    · cases i with
      | zero => show b (T.getD p 0) = true; assumption
      | succ i =>
        have := runOf_at b T n (p + 1) i (by omega)
        rw [show p + (i + 1) = p + 1 + i from by omega]; exact this
    · exact absurd h (Nat.not_lt_zero _)
theorem runOf_eq (b : Nat → Bool) (T : Array Nat) : ∀ n p r, r ≤ n → (∀ i, i < r → b (T.getD (p + i) 0) = true) → (r = n ∨ b (T.getD (p + r) 0) = false) → runOf b T n p = r
  | 0, p, r, h, _, _ => by rw [runOf]; omega
  | n + 1, p, r, h, h1, h2 => by
    rw [runOf]
    cases r with
    | zero =>
      rcases h2 with h2 | h2
      · cases h2
      · rw [if_neg (by rw [show p = p + 0 from rfl, h2]; decide)]
    | succ r =>
      rw [if_pos (by simpa using h1 0 (by omega)), runOf_eq b T n (p + 1) r (by omega) (fun i hi => by
        have := h1 (i + 1) (by omega)
        rw [show p + 1 + i = p + (i + 1) from by omega]; exact this) (by
        rcases h2 with h2 | h2
        · exact .inl (by omega)
        · exact .inr (by rw [show p + 1 + r = p + (r + 1) from by omega]; exact h2))]
theorem getD_list (L : List Nat) (i : Nat) : L.toArray.getD i 0 = L.getD i 0 := by
  simp [Array.getD, List.getD]
  split
  · rename_i h; rw [List.getElem?_eq_getElem h]; rfl
  · rename_i h; rw [List.getElem?_eq_none (by omega)]; rfl
theorem getD_mem {L : List Nat} {i : Nat} (h : i < L.length) : L.getD i 0 ∈ L := by
  rw [List.getD_eq_getElem?_getD, List.getElem?_eq_getElem h]; exact List.getElem_mem h
theorem match_of {L : List Nat} {s c e : Nat} (hl : litsAt L.toArray s) (h6 : 6 ≤ c) (hc : c ≤ hexAt L.toArray (s + 6)) (h1 : 1 ≤ e) (he : e ≤ gtAt L.toArray (s + 6 + c)) (hs : s + 6 + c + e = L.length) : MatchL (L.drop s) := by
  have hc16 : c ≤ 16 := by
    have := runOf_le hexc L.toArray (min 16 (L.toArray.size - (s + 6))) (s + 6)
    unfold hexAt at hc; omega
  refine ⟨(L.drop (s + 6)).take c, e, ?_, ?_, ?_, ?_, h1⟩
  · have e1 : (L.drop s).take 6 = lits := by
      refine List.ext_getElem? fun k => ?_
      by_cases hk : k < 6
      · have := hl k hk
        rw [getD_list] at this
        obtain ⟨a, b⟩ := this
        have a' : s + k < L.length := by simpa using a
        rw [List.getElem?_take_of_lt hk, List.getElem?_drop, List.getElem?_eq_getElem a']
        rw [List.getD_eq_getElem?_getD, List.getElem?_eq_getElem a', List.getD_eq_getElem?_getD, List.getElem?_eq_getElem (by simpa [lits] using hk)] at b
        rw [List.getElem?_eq_getElem (by simpa [lits] using hk)]
        exact congrArg some b
      · rw [List.getElem?_eq_none (by rw [List.length_take]; omega), List.getElem?_eq_none (by simp [lits]; omega)]
    have e3 : L.drop (s + 6 + c) = List.replicate e 62 := by
      refine List.eq_replicate_iff.mpr ⟨by rw [List.length_drop]; omega, fun x hx => ?_⟩
      obtain ⟨i, hi, rfl⟩ := List.getElem_of_mem hx
      rw [List.length_drop] at hi
      have := runOf_at (· == 62) L.toArray _ _ i (Nat.lt_of_lt_of_le (by omega : i < e) he)
      rw [getD_list, List.getD_eq_getElem?_getD, List.getElem?_eq_getElem (by omega)] at this
      rw [List.getElem_drop]
      simpa using this
    rw [← e1, ← e3]
    have e2 : (L.drop s).drop 6 = L.drop (s + 6) := List.drop_drop
    have e4 : (L.drop (s + 6)).drop c = L.drop (s + 6 + c) := List.drop_drop
    rw [← e4, List.take_append_drop, ← e2, List.take_append_drop]
  · rw [List.length_take, List.length_drop]; omega
  · rw [List.length_take]; omega
  · intro x hx
    obtain ⟨i, hi, rfl⟩ := List.getElem_of_mem hx
    rw [List.length_take, List.length_drop] at hi
    have := runOf_at hexc L.toArray _ _ i (Nat.lt_of_lt_of_le (by omega : i < c) hc)
    rw [getD_list, List.getD_eq_getElem?_getD, List.getElem?_eq_getElem (by omega)] at this
    rw [List.getElem_take, List.getElem_drop]
    simpa using this
theorem fails_of {L : List Nat} {s : Nat} (h : ¬ MatchL (L.drop s)) : Fails L.toArray s :=
  fun hl c h6 hc e h1 he hs => h (match_of hl h6 hc h1 he (by simpa using hs))
theorem hex_no {c : Nat} (h : hexc c = true) : c ≠ 32 ∧ c ≠ 62 ∧ c ≠ 60 := by
  simp only [hexc, Bool.or_eq_true, Bool.and_eq_true, decide_eq_true_eq] at h
  omega
theorem count_hex {h : List Nat} (hh : ∀ c ∈ h, hexc c = true) : h.count 32 = 0 := List.count_eq_zero.mpr fun m => (hex_no (hh _ m)).1 rfl
theorem match_count {u : List Nat} (h : MatchL u) : u.count 32 = 2 := by
  obtain ⟨h, g, rfl, _, _, hh, _⟩ := h
  rw [List.count_append, List.count_append, count_hex hh, List.count_replicate]
  rfl
theorem match_head {x : Nat} {u : List Nat} (h : MatchL (x :: u)) : x = 32 := by
  obtain ⟨h, g, e, _⟩ := h
  exact (List.cons.inj e).1
theorem no_before {P r : List Nat} (hr : r.count 32 = 2) {u : Nat} (hu : u < P.length) : ¬ MatchL ((P ++ r).drop u) := by
  intro h
  have hc := match_count h
  rw [List.drop_append_of_le_length (Nat.le_of_lt hu)] at h hc
  rw [List.count_append, hr] at hc
  rw [List.drop_eq_getElem_cons hu] at h hc
  have := match_head h
  rw [this, List.count_cons_self] at hc
  omega
/-- behind the two blanks' place -/
theorem no_after {X Y : List Nat} (hY : Y.count 32 = 0) {t : Nat} (ht : t ≠ X.length) : ¬ MatchL ((X ++ (lits ++ Y)).drop t) := by
  intro h
  rcases Nat.lt_or_gt_of_ne ht with h1 | h1
  · exact no_before (P := X) (by rw [List.count_append, hY]; rfl) h1 h
  · have hc := match_count h
    rw [List.drop_append, List.drop_eq_nil_of_le (by omega), List.nil_append] at hc
    obtain ⟨k, hk⟩ : ∃ k, t - X.length = k + 1 := ⟨t - X.length - 1, by omega⟩
    rw [hk] at hc
    have : (lits ++ Y).drop (k + 1) = ([97, 116, 32, 48, 120] ++ Y).drop k := rfl
    rw [this] at hc
    have h2 : (([97, 116, 32, 48, 120] ++ Y).drop k).count 32 ≤ ([97, 116, 32, 48, 120] ++ Y).count 32 := (List.drop_sublist _ _).count_le _
    rw [List.count_append, hY] at h2
    have : ([97, 116, 32, 48, 120] : List Nat).count 32 = 1 := by decide
    omega
theorem no_core {k : List Nat} (hk : ∀ c ∈ k, hexc c = true) (hl : k.length < 6 ∨ 16 < k.length) (n : Nat) : ¬ MatchL (lits ++ (k ++ List.replicate n 62)) := by
  rintro ⟨h, g, e, h6, h16, hh, _⟩
  have e2 := List.append_cancel_left e
  have e3 := congrArg (List.filter hexc) e2
  have f1 : ∀ (l : List Nat), (∀ c ∈ l, hexc c = true) → l.filter hexc = l := fun l hl => List.filter_eq_self.mpr hl
  have f2 : ∀ n, (List.replicate n 62).filter hexc = [] := fun n => List.filter_eq_nil_iff.mpr fun a ha => by rw [(List.mem_replicate.mp ha).2]; decide
  rw [List.filter_append, List.filter_append, f1 k hk, f1 h hh, f2, f2, List.append_nil, List.append_nil] at e3
  rw [e3] at hl
  omega
theorem none_segs : ∀ l : List (Option (List Nat)), ids l = 0 → l = List.replicate l.length none
  | [], _ => rfl
  | s :: r, h => by
    unfold ids at h
    rw [List.countP_cons] at h
    have hr : ids r = 0 := by unfold ids; omega
    cases s with
    | none => rw [List.length_cons, List.replicate_succ, ← none_segs r hr]
    | some v => simp at h
theorem flat_none (n : Nat) : (List.replicate n (none : Option (List Nat))).flatMap segL = List.replicate n 62 := by
  induction n with
  | zero => rfl
  | succ n ih => rw [List.replicate_succ, List.flatMap_cons, ih, List.replicate_succ]; rfl
theorem last_id : ∀ l : List (Option (List Nat)), ids l ≠ 0 → ∃ A h k, l = A ++ some h :: List.replicate k none ∧ stripL l = A ++ none :: List.replicate k none
  | [], h => absurd rfl h
  | s :: r, h => by
    rw [stripL]
    by_cases ha : r.any Option.isSome = true
    · rw [if_pos ha]
      obtain ⟨x, hx, hx2⟩ := List.any_eq_true.mp ha
      have hp : 0 < r.countP Option.isSome := List.countP_pos_iff.mpr ⟨x, hx, hx2⟩
      obtain ⟨A, v, k, e1, e2⟩ := last_id r (by unfold ids; omega)
      exact ⟨s :: A, v, k, by rw [e1]; rfl, by rw [e2]; rfl⟩
    · rw [if_neg ha]
      have h0 : ids r = 0 := by
        rcases Nat.eq_zero_or_pos (r.countP Option.isSome) with h | h
        · exact h
        · obtain ⟨x, hx, hx2⟩ := List.countP_pos_iff.mp h
          exact absurd (List.any_eq_true.mpr ⟨x, hx, hx2⟩) ha
      have hs := none_segs r h0
      cases s with
      | none => unfold ids at h h0; rw [List.countP_cons, h0] at h; simp at h
      | some v => exact ⟨[], v, r.length, by rw [List.nil_append, ← hs], by rw [List.nil_append, ← hs]⟩
theorem gd_r {l r : List Nat} {i : Nat} : (l ++ r).getD (l.length + i) 0 = r.getD i 0 := by
  rw [List.getD_eq_getElem?_getD, List.getD_eq_getElem?_getD, List.getElem?_append_right (by omega), Nat.add_sub_cancel_left]
theorem gd_l {l r : List Nat} {i : Nat} (h : i < l.length) : (l ++ r).getD i 0 = l.getD i 0 := by
  rw [List.getD_eq_getElem?_getD, List.getD_eq_getElem?_getD, List.getElem?_append_left h]
/-- the core's parts -/
theorem core_parts {core : List Nat} (h : core = core5 ∨ core = core17) : ∃ k, core = [60, 48] ++ (lits ++ (k ++ [62])) ∧ (∀ c ∈ k, hexc c = true) ∧ (k.length < 6 ∨ 16 < k.length) ∧ 5 ≤ k.length ∧ k.length ≤ 17 := by
  rcases h with rfl | rfl
  · exact ⟨[49, 50, 51, 52, 53], rfl, by decide, by decide, by decide, by decide⟩
  · exact ⟨[48, 49, 50, 51, 52, 53, 54, 55, 56, 57, 97, 98, 99, 100, 101, 102, 48], rfl, by decide, by decide, by decide, by decide⟩
theorem okc_hex {c : Nat} (h : hexc c = true) : okc c = true := by unfold okc; rw [h]; rfl
theorem core_ok {core : List Nat} (h : core = core5 ∨ core = core17) : ∀ c ∈ core, okc c = true := by
  rcases h with rfl | rfl <;> decide
theorem seg_ok {core segs} (x : WF core segs) : ∀ c ∈ segs.flatMap segL, okc c = true := by
  intro c hc
  obtain ⟨s, hs, hc⟩ := List.mem_flatMap.mp hc
  cases s with
  | none => rw [List.mem_singleton.mp hc]; decide
  | some h =>
    simp only [segL, List.mem_append, List.mem_singleton] at hc
    rcases hc with (hc | hc) | hc
    · exact (by decide : ∀ c ∈ lits, okc c = true) c hc
    · exact okc_hex ((x.h h hs).2.2 c hc)
    · rw [hc]; decide
theorem rend_ok {core segs} (x : WF core segs) : ∀ c ∈ rendL core segs, okc c = true := by
  intro c hc
  unfold rendL at hc
  rcases List.mem_append.mp hc with hc | hc
  · rw [(List.mem_replicate.mp hc).2]; decide
  · rcases List.mem_append.mp hc with hc | hc
    · exact core_ok x.c c hc
    · exact seg_ok x c hc
theorem seg_len {core : List Nat} : ∀ {segs : List (Option (List Nat))}, (∀ h, some h ∈ segs → 6 ≤ h.length ∧ h.length ≤ 16 ∧ ∀ c ∈ h, hexc c = true) → (segs.flatMap segL).length ≤ 23 * segs.length
  | [], _ => Nat.le_refl _
  | s :: r, h => by
    rw [List.flatMap_cons, List.length_append, List.length_cons]
    have := seg_len (core := core) (segs := r) fun v hv => h v (.tail _ hv)
    have : (segL s).length ≤ 23 := by
      cases s with
      | none => decide
      | some v =>
        have := (h v (.head _)).2.1
        simp only [segL, List.length_append, List.length_cons, List.length_nil, lits]; omega
    omega
theorem core_len {core : List Nat} (h : core = core5 ∨ core = core17) : 14 ≤ core.length ∧ core.length ≤ 26 := by
  rcases h with rfl | rfl <;> decide
theorem rendL_len {core segs} (x : WF core segs) : 14 ≤ (rendL core segs).length ∧ (rendL core segs).length ≤ 2000 := by
  unfold rendL
  rw [List.length_append, List.length_append, List.length_replicate]
  have := seg_len (core := core) x.h
  have := x.n
  have := core_len x.c
  omega
theorem strip_rend {core segs} (x : WF core segs) : Strip (rend core segs) (rend core (stripL segs)) := by
  have hok : ∀ p, p < (rend core segs).cps.size → okc ((rend core segs).cps.getD p 0) = true := by
    intro p hp
    show okc ((rendL core segs).toArray.getD p 0) = true
    rw [getD_list]
    exact rend_ok x _ (getD_mem (by simpa [rend] using hp))
  have hlen := rendL_len x
  have hsz : (rend core segs).cps.size = (rendL core segs).length := by simp [rend]
  obtain ⟨k, hk, hkh, hkl, hk5, hk17⟩ := core_parts x.c
  by_cases h0 : ids segs = 0
  · rw [stripL_none segs h0]
    refine Strip.no hok (by omega) (by omega) fun t ht => ?_
    refine fails_of ?_
    have hL : rendL core segs = (List.replicate segs.length 60 ++ [60, 48]) ++ (lits ++ (k ++ List.replicate (segs.length + 1) 62)) := by
      unfold rendL
      rw [none_segs segs h0, flat_none, List.length_replicate, hk, List.replicate_succ]
      simp
    rw [hL]
    by_cases ht : t = (List.replicate segs.length 60 ++ [60, 48]).length
    · rw [ht, List.drop_left]
      exact no_core hkh hkl _
    · refine no_after ?_ ht
      · rw [List.count_append, count_hex hkh, List.count_replicate]; rfl
  · obtain ⟨A, h, j, e1, e2⟩ := last_id segs h0
    obtain ⟨h6, h16, hh⟩ := x.h h (by rw [e1]; exact List.mem_append_right _ (.head _))
    have hL : ∃ P, P ≠ [] ∧ rendL core segs = P ++ (lits ++ (h ++ List.replicate (j + 1) 62)) ∧ rendL core (stripL segs) = P ++ List.replicate (j + 1) 62 := by
      refine ⟨List.replicate segs.length 60 ++ (core ++ A.flatMap segL), ?_, ?_, ?_⟩
      · rw [hk]; simp
      · unfold rendL
        conv => lhs; rw [e1]
        rw [List.flatMap_append, List.flatMap_cons, flat_none, e1, List.replicate_succ (n := j)]
        simp [segL]
      · unfold rendL
        rw [stripL_length, e2, List.flatMap_append, List.flatMap_cons, flat_none, List.replicate_succ (n := j)]
        simp [segL]
    obtain ⟨P, hP, hL1, hL2⟩ := hL
    have hPl : 0 < P.length := List.length_pos_iff.mpr hP
    have hlL : (rendL core segs).length = P.length + (6 + (h.length + (j + 1))) := by rw [hL1]; simp only [List.length_append, List.length_replicate]; rfl
    have hj : j + 1 ≤ 2000 := by omega
    have g1 : ∀ i, i < 6 → (rendL core segs).getD (P.length + i) 0 = lits.getD i 0 := by
      intro i hi
      rw [hL1, gd_r, gd_l (by exact hi)]
    have g2 : ∀ i, i < h.length → (rendL core segs).getD (P.length + 6 + i) 0 = h.getD i 0 := by
      intro i hi
      rw [hL1, Nat.add_assoc, gd_r, show 6 + i = lits.length + i from rfl, gd_r, gd_l hi]
    have g3 : ∀ i, i < j + 1 → (rendL core segs).getD (P.length + 6 + h.length + i) 0 = 62 := by
      intro i hi
      rw [hL1, Nat.add_assoc, Nat.add_assoc, gd_r, show 6 + (h.length + i) = lits.length + (h.length + i) from rfl, gd_r, gd_r, List.getD_eq_getElem?_getD, List.getElem?_replicate_of_lt hi]
      rfl
    have hhex : hexAt (rend core segs).cps (P.length + 6) = h.length := by
      refine runOf_eq _ _ _ _ _ (by rw [hsz]; omega) (fun i hi => ?_) ?_
      · show hexc ((rendL core segs).toArray.getD _ 0) = true
        rw [getD_list, g2 i hi]
        exact hh _ (getD_mem hi)
      · by_cases h17 : h.length = 16
        · exact .inl (by rw [hsz]; omega)
        · refine .inr ?_
          show hexc ((rendL core segs).toArray.getD _ 0) = false
          rw [getD_list]
          have := g3 0 (by omega)
          rw [Nat.add_zero] at this
          rw [this]; decide
    have hgt : gtAt (rend core segs).cps (P.length + 6 + h.length) = j + 1 := by
      refine runOf_eq _ _ _ _ _ (by rw [hsz]; omega) (fun i hi => ?_) (.inl (by rw [hsz]; omega))
      show ((rendL core segs).toArray.getD _ 0 == 62) = true
      rw [getD_list, g3 i hi]; rfl
    have hst := Strip.yes (x := rend core segs) P.length hok (by omega) (by omega) hPl (by omega) (fun i hi => by
      refine ⟨by rw [hsz]; omega, ?_⟩
      show (rendL core segs).toArray.getD _ 0 = _
      rw [getD_list, g1 i hi]) (by rw [hhex]; exact h6) (by rw [hhex, hgt]; omega) (by rw [hhex, hgt, hsz]; omega) (fun u hu => by
        refine fails_of ?_
        rw [hL1]
        refine no_before ?_ hu
        rw [List.count_append, List.count_append, count_hex hh, List.count_replicate]; rfl)
    rw [hhex] at hst
    have hend : (⟨(rend core segs).cps.extract 0 P.length⟩ : Str) ++ ⟨(rend core segs).cps.extract (P.length + 6 + h.length) (rend core segs).cps.size⟩ = rend core (stripL segs) := by
      show (⟨(rendL core segs).toArray.extract 0 P.length ++ (rendL core segs).toArray.extract (P.length + 6 + h.length) (rendL core segs).toArray.size⟩ : Str) = ⟨(rendL core (stripL segs)).toArray⟩
      congr 1
      rw [← Array.toList_inj]
      simp only [Array.toList_append, Array.toList_extract, List.size_toArray]
      rw [hL2, hL1]
      simp only [List.extract]
      have hd : (P ++ (lits ++ (h ++ List.replicate (j + 1) 62))).drop (P.length + 6 + h.length) = List.replicate (j + 1) 62 := by
        rw [show P.length + 6 + h.length = P.length + (lits.length + h.length) from by simp [lits]; omega, ← List.drop_drop, List.drop_left, ← List.drop_drop, List.drop_left, List.drop_left]
      rw [List.drop_zero, Nat.sub_zero, List.take_left, hd, List.take_of_length_le (by rw [List.length_replicate]; simp [lits]; omega)]
    rw [hend] at hst
    exact hst
theorem strip_c {w : World} {mean : ExcName → Option Value} {mg mb : Str → Option Value} {loose : List Str} {rest ext : List (Addr × Obj)} {ps : Array Value} {core : List Nat} {segs : List (Option (List Nat))} {tx : Tok}
    {dp un : Nat} {gd : Option (List Code)} {cn : Str} {cs : Scope} {a : Addr} {ccd : Value} {cl : List (Str × Addr)} {outer : List Env} {A₀ : Around} {base h₀ : Heap} {L : Addr} {m : Str → Option Value} {s : Shared} {Q E : Value → Shared → Prop}
    (hW : WF core segs) (hTab : StripTab ps ext) (hrest : ∀ p ∈ rest, p.1 ≠ 45)
    (hB : Below A₀ base outer h₀) (hF : Fr h₀ L s.heap m) (hX : (hd.heap_39 w.params).In h₀) (hN : News h₀ L s.heap ((45, tabObj ps) :: (ext ++ rest))) (hT : Top topProg loose mean mg mb h₀) (hC : CodeHd h₀ 49 45) (hk : cs.kind = .function)
    (hdp : dp + 4 < recursionLimit) (hun : un + 30 < cLine)
    (hret : ∀ (t : Tok) (h' : Heap) (tk' : Nat) (ps' : Array Value) (ext' : List (Addr × Obj)), TabNext ((45, tabObj ps) :: (ext ++ rest)) ps ext ps' ext' → Fr h₀ L h' m → News h₀ L h' ((45, tabObj ps') :: (ext' ++ rest)) → Q (.str (rend core (stripL segs)) t) { s with heap := h', toks := tk' }) :
    wpAny (model PySem.Challenge.rw_wb0014_01.row.prog w) (ktrTop dp un gd cn cs L a ccd cl outer) (call (.ref 50) [.str (rend core segs) tx]) Q E s :=
  strip_ok w mean mg mb loose rest ext ps _ _ tx (strip_rend hW) hTab hrest dp un gd cn cs a ccd cl outer A₀ base h₀ L m s Q E hB hF hX hN hT hC hk hdp hun hret
theorem ids_strip : ∀ l, ids (stripL l) = ids l - 1
  | [] => rfl
  | s :: r => by
    rw [stripL]
    split
    · rename_i ha
      obtain ⟨x, hx, hx2⟩ := List.any_eq_true.mp ha
      have hp : 0 < r.countP Option.isSome := List.countP_pos_iff.mpr ⟨x, hx, hx2⟩
      have ih := ids_strip r
      unfold ids at ih ⊢
      rw [List.countP_cons, List.countP_cons, ih]
      omega
    · rename_i ha
      have h0 : r.countP Option.isSome = 0 := by
        rcases Nat.eq_zero_or_pos (r.countP Option.isSome) with h | h
        · exact h
        · obtain ⟨x, hx, hx2⟩ := List.countP_pos_iff.mp h
          exact absurd (List.any_eq_true.mpr ⟨x, hx, hx2⟩) ha
      unfold ids
      rw [List.countP_cons, List.countP_cons, h0]
      cases s <;> simp
def segsLen (l : List (Option (List Nat))) : Nat := (l.flatMap segL).length
theorem segsLen_strip : ∀ l, 0 < ids l → segsLen (stripL l) < segsLen l
  | [], h => absurd h (Nat.lt_irrefl _)
  | s :: r, h => by
    rw [stripL]
    split
    · rename_i ha
      obtain ⟨x, hx, hx2⟩ := List.any_eq_true.mp ha
      have hp : 0 < r.countP Option.isSome := List.countP_pos_iff.mpr ⟨x, hx, hx2⟩
      have ih := segsLen_strip r hp
      unfold segsLen at ih ⊢
      simp only [List.flatMap_cons, List.length_append] at ih ⊢
      omega
    · rename_i ha
      have h0 : r.countP Option.isSome = 0 := by
        rcases Nat.eq_zero_or_pos (r.countP Option.isSome) with h | h
        · exact h
        · obtain ⟨x, hx, hx2⟩ := List.countP_pos_iff.mp h
          exact absurd (List.any_eq_true.mpr ⟨x, hx, hx2⟩) ha
      unfold ids at h
      rw [List.countP_cons, h0] at h
      cases s with
      | none => simp at h
      | some v =>
        unfold segsLen
        simp only [List.flatMap_cons, List.length_append]
        simp [segL, lits]
theorem rend_inj_len {core a b} (hl : a.length = b.length) (h : rend core a = rend core b) : segsLen a = segsLen b := by
  have := congrArg (fun x : Str => x.cps.size) h
  simp only [rend, rendL, List.size_toArray, List.length_append, List.length_replicate] at this
  unfold segsLen
  omega
theorem strip_same (core segs) : (rend core (stripL segs) == rend core segs) = decide (ids segs = 0) := by
  by_cases h : ids segs = 0
  · rw [stripL_none segs h, decide_eq_true h]; exact beq_self_eq_true _
  · rw [decide_eq_false h]
    refine beq_eq_false_iff_ne.mpr fun e => ?_
    have := rend_inj_len (stripL_length segs) e
    have h2 := segsLen_strip segs (Nat.pos_of_ne_zero h)
    omega
/-- where the ledger bears stripid's table -/
inductive Led : List (Addr × Obj) → Array Value → List (Addr × Obj) → (Array Value → List (Addr × Obj) → List (Addr × Obj)) → Prop
  | head {ps ext rest} : (∀ p ∈ rest, p.1 ≠ 45) → Led ((45, tabObj ps) :: (ext ++ rest)) ps ext (fun ps' ext' => (45, tabObj ps') :: (ext' ++ rest))
  | tail {p r ps ext g} : p.2 ≠ tabObj ps → Led r ps ext g → Led (p :: r) ps ext (fun a b => p :: g a b)
theorem Led.split {news ps ext g} (U : Led news ps ext g) : ∃ pre rest, news = pre ++ (45, tabObj ps) :: (ext ++ rest) ∧ (∀ ps' ext', g ps' ext' = pre ++ (45, tabObj ps') :: (ext' ++ rest)) ∧ (∀ p ∈ pre, p.2 ≠ tabObj ps) ∧ ∀ p ∈ rest, p.1 ≠ 45 := by
  induction U with
  | head h => exact ⟨[], _, rfl, fun _ _ => rfl, fun _ q => absurd q List.not_mem_nil, h⟩
  | tail h _ ih =>
    obtain ⟨pre, rest, e1, e2, e3, e4⟩ := ih
    exact ⟨_ :: pre, rest, by rw [e1]; rfl, fun a b => by show _ :: _ = _; rw [e2]; rfl, fun p hp => by rcases List.mem_cons.mp hp with rfl | hp; exact h; exact e3 p hp, e4⟩
theorem Led.to {news ps ext g h₀' L' h'} (U : Led news ps ext g) (N' : News h₀' L' h' news) : ∃ R, (∀ p ∈ R, p.1 ≠ 45) ∧ (∀ {h₀ L h}, News h₀ L h news → News h₀ L h ((45, tabObj ps) :: (ext ++ R))) ∧ (∀ {h₀ L h ps' ext'}, News h₀ L h ((45, tabObj ps') :: (ext' ++ R)) → News h₀ L h (g ps' ext')) ∧ (∀ p ∈ news, p ∈ (45, tabObj ps) :: (ext ++ R)) := by
  obtain ⟨pre, rest, e1, e2, e3, e4⟩ := U.split
  subst e1
  refine ⟨pre ++ rest, fun p hp => ?_, fun N q hq => N q ?_, fun {h₀ L h ps' ext'} N q hq => N q ?_, fun p hp => ?_⟩
  · rcases List.mem_append.mp hp with hp | hp
    · intro e
      have a := (N' p (List.mem_append_left _ hp)).1
      have b := (N' _ (List.mem_append_right _ (.head _))).1
      rw [e, b] at a
      exact e3 p hp (Option.some.inj a).symm
    · exact e4 p hp
  · simp only [List.mem_cons, List.mem_append] at hq ⊢
    rcases hq with a | b | c | d
    · exact .inr (.inl a)
    · exact .inr (.inr (.inl b))
    · exact .inl c
    · exact .inr (.inr (.inr d))
  · rw [e2] at hq
    simp only [List.mem_cons, List.mem_append] at hq ⊢
    rcases hq with a | b | c | d
    · exact .inr (.inr (.inl a))
    · exact .inl b
    · exact .inr (.inl c)
    · exact .inr (.inr (.inr d))
  · simp only [List.mem_cons, List.mem_append] at hp ⊢
    rcases hp with a | b | c | d
    · exact .inr (.inr (.inl a))
    · exact .inl b
    · exact .inr (.inl c)
    · exact .inr (.inr (.inr d))
theorem strip_L {w : World} {mean : ExcName → Option Value} {mg mb : Str → Option Value} {loose : List Str} {news ext : List (Addr × Obj)} {g : Array Value → List (Addr × Obj) → List (Addr × Obj)} {ps : Array Value} {core : List Nat} {segs : List (Option (List Nat))} {tx : Tok}
    {dp un : Nat} {gd : Option (List Code)} {cn : Str} {cs : Scope} {a : Addr} {ccd : Value} {cl : List (Str × Addr)} {outer : List Env} {A₀ : Around} {base h₀ : Heap} {L : Addr} {m : Str → Option Value} {s : Shared} {Q E : Value → Shared → Prop}
    (hW : WF core segs) (hTab : StripTab ps ext) (U : Led news ps ext g)
    (hB : Below A₀ base outer h₀) (hF : Fr h₀ L s.heap m) (hX : (hd.heap_39 w.params).In h₀) (hN : News h₀ L s.heap news) (hT : Top topProg loose mean mg mb h₀) (hC : CodeHd h₀ 49 45) (hk : cs.kind = .function)
    (hdp : dp + 4 < recursionLimit) (hun : un + 30 < cLine)
    (hret : ∀ (t : Tok) (h' : Heap) (tk' : Nat) (ps' : Array Value) (ext' : List (Addr × Obj)), TabNext news ps ext ps' ext' → Fr h₀ L h' m → News h₀ L h' (g ps' ext') → Q (.str (rend core (stripL segs)) t) { s with heap := h', toks := tk' }) :
    wpAny (model PySem.Challenge.rw_wb0014_01.row.prog w) (ktrTop dp un gd cn cs L a ccd cl outer) (call (.ref 50) [.str (rend core segs) tx]) Q E s := by
  obtain ⟨R, r1, r2, r3, r4⟩ := U.to hN
  exact strip_c hW hTab r1 hB hF hX (r2 hN) hT hC hk hdp hun fun t h' tk' ps' ext' a b c => hret t h' tk' ps' ext' (a.mono r4) b (r3 c)
end
-- part W0
section
open PySem PySem.Calls PyProof.Rows PySem.W
def hexT (x : Int) : Str := Txt.slice (Txt.mul (Str.ofString "0123456789abcdef") 2) (some (x.fmod 16)) (some (x.fmod 16 + 6 + x.fmod 11))
def hexS (x : Int) : List Nat := (hexT x).cps.toList
theorem lt_cps : (Str.ofString "<").cps = #[60] := by decide +kernel
theorem gt_cps : (Str.ofString ">").cps = #[62] := by decide +kernel
theorem at_cps : (Str.ofString " at 0x").cps = lits.toArray := by decide +kernel
theorem str_ext {a b : Str} (h : a.cps.toList = b.cps.toList) : a = b := by
  obtain ⟨⟨a⟩⟩ := a
  obtain ⟨⟨b⟩⟩ := b
  simp only at h
  rw [h]
theorem cps_app (a b : Str) : (a ++ b).cps = a.cps ++ b.cps := rfl
theorem wrap_any (core : List Nat) (segs : List (Option (List Nat))) (h : Str) :
    Str.ofString "<" ++ rend core segs ++ Str.ofString " at 0x" ++ h ++ Str.ofString ">" = rend core (segs ++ [some h.cps.toList]) := by
  refine str_ext ?_
  rw [cps_app, cps_app, cps_app, cps_app, lt_cps, gt_cps, at_cps]
  simp only [rend, rendL, Array.toList_append, List.toList_toArray, List.length_append, List.length_cons, List.length_nil, List.flatMap_append, List.flatMap_cons, List.flatMap_nil, List.append_nil, segL]
  rw [Nat.zero_add, List.replicate_succ]
  simp
theorem wrap_eq (core : List Nat) (segs : List (Option (List Nat))) (x : Int) :
    Str.ofString "<" ++ rend core segs ++ Str.ofString " at 0x" ++ Txt.slice (Txt.mul (Str.ofString "0123456789abcdef") 2) (some (x.fmod 16)) (some (x.fmod 16 + 6 + x.fmod 11)) ++ Str.ofString ">" = rend core (segs ++ [some (hexS x)]) :=
  wrap_any core segs (hexT x)
theorem linesW0 : True := by
  w_top off
  k_with_none
  k_with "eval Name" => (k_here; k_dflt (refine' nameX_L ?F ?v ?_ ?a ?b; (case F => k_asm); (case a => rfl); (case b => rfl); (case v => rfl); k_whole))
  trivial
set_option maxHeartbeats 8000000 in
theorem wrapped_ok (w : World) (mean : ExcName → Option Value) (mg mb : Str → Option Value) (loose : List Str) (news : List (Addr × Obj)) (core : List Nat) (segs : List (Option (List Nat))) (x : Int) (t1 t2 : Tok) (hlen : (rend core segs).length ≤ 100000)
    (dp un : Nat) (gd : Option (List Code)) (cn : Str) (cs : Scope) (a : Addr) (ccd : Value) (cl : List (Str × Addr)) (outer : List Env) (A₀ : Around) (base h₀ : Heap) (L : Addr) (m : Str → Option Value) (s : Shared) (Q E : Value → Shared → Prop)
    (hB : Below A₀ base outer h₀) (hF : Fr h₀ L s.heap m) (hX : (hd.heap_39 w.params).In h₀) (hN : News h₀ L s.heap news) (hT : Top topProg loose mean mg mb h₀) (hk : cs.kind = .function)
    (hdp : dp + 4 < recursionLimit) (hun : un + 30 < cLine)
    (hret : ∀ (t : Tok) (h' : Heap) (tk' : Nat), Fr h₀ L h' m → News h₀ L h' news → Q (.str (rend core (segs ++ [some (hexS x)])) t) { s with heap := h', toks := tk' }) :
    wpAny (model PySem.Challenge.rw_wb0014_01.row.prog w) (ktrTop dp un gd cn cs L a ccd cl outer) (call (.ref 62) [.str (rend core segs) t1, .int x t2]) Q E s := by
  revert hX
  k_fill
  intro hX
  rw [← wrap_eq] at hret
  generalize rend core segs = nest at *
  refine wpAny_call ?_
  k_dflt cell_enter
  have hsl : (Txt.slice (Txt.mul (Str.ofString "0123456789abcdef") 2) (some (x.fmod 16)) (some (x.fmod 16 + 6 + x.fmod 11))).length ≤ 32 := Nat.le_trans (Txt.slice_le _ _ _) (by decide +kernel)
  k_steps
  exact hret _ _ _ (by k_asm) (by k_asm)
end
-- part TH
section
open PySem PySem.Calls PyProof.Rows PySem.W
theorem StripTab.code {ps : Array Value} {ext : List (Addr × Obj)} (h : StripTab ps ext) : ∀ p ∈ ext, ∃ vs t x, p.2.data = .fields vs ∧ vs[1]? = some (.str x t) := by
  rcases h with ⟨_, rfl⟩ | ⟨c', oc, vs, t, _, rfl, h1, h2⟩
  · intro p hp; exact absurd hp List.not_mem_nil
  · intro p hp
    rcases List.mem_singleton.mp hp with rfl
    exact ⟨vs, t, _, h1, h2⟩
theorem allLt_mem {d : Addr} : ∀ {l : List (Addr × Obj)}, AllLt d l → ∀ p ∈ l, p.1 < d
  | [], _, p, hp => absurd hp List.not_mem_nil
  | q :: r, h, p, hp => by
    rcases List.mem_cons.mp hp with rfl | hp
    · exact h.1
    · exact allLt_mem h.2 p hp
theorem off_rng {I : Addr} {a b : Int} {ps9 : Array Value} {ext9 ext rest : List (Addr × Obj)} {h₀ h : Heap} {L : Addr} (l1 : 45 < I ∧ AllLt I (ext ++ rest)) (N : News h₀ L h ((I, itR a b) :: (45, tabObj ps9) :: (ext9 ++ rest))) (hT : StripTab ps9 ext9) :
    ∀ p ∈ (45, tabObj ps9) :: (ext9 ++ rest), p.1 ≠ I := by
  intro p hp
  rcases List.mem_cons.mp hp with rfl | hp
  · exact Nat.ne_of_lt l1.1
  · rcases List.mem_append.mp hp with hp' | hp'
    · intro e
      have a1 := (N _ (.head _)).1
      have a2 := (N p (.tail _ (.tail _ hp))).1
      rw [e, a1] at a2
      obtain ⟨vs, t, x, d1, d2⟩ := hT.code p hp'
      rw [← Option.some.inj a2] at d1
      cases d1
      cases d2
    · exact Nat.ne_of_lt (allLt_mem l1.2 p (List.mem_append_right _ hp'))
theorem linesTH : True := by
  w_top off
  k_with_none
  k_with "eval Name" => (k_here; k_dflt (refine' nameX_L ?F ?v ?_ ?a ?b; (case F => k_asm); (case a => rfl); (case b => rfl); (case v => rfl); k_whole))
  k_with "callWith ref" => (k_here; k_dflt (refine' callWith_K ?k1 ?k2 ?_; (case k1 => k_asm); (case k2 => k_is); k_whole))
  k_with "call ref" => (k_here; (with_reducible show wpAny _ _ (call (Value.ref 50) _) _ _ _); k_dflt (refine' strip_L (hW := ?W) (hTab := ?tab) (U := ?U) (hB := ?B) (hF := ?F) (hX := ?X) (hN := ?N) (hT := ?T) (hC := ?C) (hk := ?k) (hdp := ?dp) (hun := ?un) (hret := ?_); (case W => assumption); (case B => k_asm); (case F => k_asm); (case X => k_asm); (case N => k_asm); (case U => first | exact Led.head (by assumption) | exact Led.tail (by intro e; cases e) (Led.head (by assumption)) | exact Led.tail (by intro e; cases e) (Led.tail (by intro e; cases e) (Led.head (by assumption))) | exact Led.tail (by intro e; cases e) (Led.tail (by intro e; cases e) (Led.tail (by intro e; cases e) (Led.head (by assumption)))) | exact Led.tail (by intro e; cases e) (Led.tail (by intro e; cases e) (Led.tail (by intro e; cases e) (Led.tail (by intro e; cases e) (Led.head (by assumption))))) | exact Led.tail (by intro e; cases e) (Led.tail (by intro e; cases e) (Led.tail (by intro e; cases e) (Led.tail (by intro e; cases e) (Led.tail (by intro e; cases e) (Led.head (by assumption)))))) | exact Led.tail (by intro e; cases e) (Led.tail (by intro e; cases e) (Led.tail (by intro e; cases e) (Led.tail (by intro e; cases e) (Led.tail (by intro e; cases e) (Led.tail (by intro e; cases e) (Led.head (by assumption))))))) | exact Led.tail (by intro e; cases e) (Led.tail (by intro e; cases e) (Led.tail (by intro e; cases e) (Led.tail (by intro e; cases e) (Led.tail (by intro e; cases e) (Led.tail (by intro e; cases e) (Led.tail (by intro e; cases e) (Led.head (by assumption)))))))) | exact Led.tail (by intro e; cases e) (Led.tail (by intro e; cases e) (Led.tail (by intro e; cases e) (Led.tail (by intro e; cases e) (Led.tail (by intro e; cases e) (Led.tail (by intro e; cases e) (Led.tail (by intro e; cases e) (Led.tail (by intro e; cases e) (Led.head (by assumption)))))))))); (case tab => assumption); (case T => k_asm); (case C => first | assumption | exact CodeHd.keeps (by assumption) (Fr.keep (by assumption))); (case k => first | exact rfl | assumption); (case dp => assumption); (case un => assumption)); intro _ _ _ _ _ hNx9 _ N9; (have hTab9 := TabNext.tab hNx9); (have hW9 := WF.strip (by assumption)); (try dsimp only at N9); (try dsimp only); (revert hNx9 N9 hTab9 hW9; intro _ _ _ _))
  k_with "UnrEnd" => (k_dflt (refine UnrEnd.intro (by k_asm) (by assumption) _ (fun p hp => hp) (off_rng (by assumption) (by assumption) (by assumption)) ?_))
  trivial
set_option maxHeartbeats 8000000 in
theorem three_ok (w : World) (mean : ExcName → Option Value) (mg mb : Str → Option Value) (loose : List Str) (rest ext : List (Addr × Obj)) (ps : Array Value) (core : List Nat) (segs : List (Option (List Nat))) (tx : Tok) (hW : WF core segs) (hTab : StripTab ps ext) (hrest : ∀ p ∈ rest, p.1 ≠ 45)
    (dp un : Nat) (gd : Option (List Code)) (cn : Str) (cs : Scope) (a : Addr) (ccd : Value) (cl : List (Str × Addr)) (outer : List Env) (A₀ : Around) (base h₀ : Heap) (L : Addr) (m : Str → Option Value) (s : Shared) (Q E : Value → Shared → Prop)
    (hB : Below A₀ base outer h₀) (hF : Fr h₀ L s.heap m) (hX : (hd.heap_39 w.params).In h₀) (hN : News h₀ L s.heap ((45, tabObj ps) :: (ext ++ rest))) (hT : Top topProg loose mean mg mb h₀) (hC : CodeHd h₀ 49 45) (hk : cs.kind = .function)
    (hdp : dp + 5 < recursionLimit) (hun : un + 40 < cLine)
    (hret : ∀ (y : Str) (t : Tok) (h' : Heap) (tk' : Nat) (ps' : Array Value) (ext' : List (Addr × Obj)), y = (if ids segs < 3 then Str.ofString "" else rend core (stripL (stripL (stripL segs)))) → TabNext ((45, tabObj ps) :: (ext ++ rest)) ps ext ps' ext' → Fr h₀ L h' m → News h₀ L h' ((45, tabObj ps') :: (ext' ++ rest)) → Q (.str y t) { s with heap := h', toks := tk' }) :
    wpAny (model PySem.Challenge.rw_wb0014_01.row.prog w) (ktrTop dp un gd cn cs L a ccd cl outer) (call (.ref 69) [.str (rend core segs) tx]) Q E s := by
  revert hX
  k_fill
  intro hX
  have hdpA : dp + 1 + 4 < recursionLimit := by omega
  have hunA : un + 3 + 30 < cLine := by omega
  refine wpAny_call ?_
  k_dflt cell_enter
  k_steps
  all_goals (simp only [strip_same, ids_strip, decide_eq_true_eq, decide_eq_false_iff_not] at *)
  all_goals refine hret _ _ _ _ _ _ ?_ (by first | exact TabNext.mono (TabNext.trans (by assumption) (TabNext.trans (by assumption) (by assumption))) (fun p hp => .tail _ hp) | exact TabNext.mono (TabNext.trans (by assumption) (by assumption)) (fun p hp => .tail _ hp) | exact TabNext.mono (by assumption) (fun p hp => .tail _ hp)) (by k_asm) ?_
  all_goals first | (rw [if_pos (by omega)]; done) | (rw [if_neg (by omega)]; done) | assumption | exact cb_drop (by assumption) (fun p hp => .tail _ hp)
end
-- part Q0
section
open PySem PySem.Calls PyProof.Rows PySem.W PyProof.V PySem.Spec
theorem sl_canLayAll0 : ∀ ns : List Str, (∀ x ∈ ns, PyData.strOk x = true) → PyData.canLayAll0 (ns.map PyData.str) = true
  | [], _ => rfl
  | x :: r, h => by simp [PyData.canLayAll0, PyData.canLay0, sl_canLayAll0 r (fun y hy => h y (.tail _ hy)), h x (.head _)]
theorem sl_depthAll : ∀ ns : List Str, PyData.depthAll (ns.map PyData.str) = 0
  | [] => rfl
  | _ :: r => by simp [PyData.depthAll, PyData.depth, sl_depthAll r]
theorem sl_shaped (ns : List Str) (h : ∀ x ∈ ns, PyData.strOk x = true) : SeqAt.shaped (.list (ns.map PyData.str)) = true := by
  simp [SeqAt.shaped, PyData.canLay0, PyData.depth, sl_canLayAll0 ns h, sl_depthAll]
theorem sl_sameAll : ∀ ns ms : List Str, PySem.Spec.sameAll (ns.map PyData.str) (ms.map PyData.str) = decide (ns = ms)
  | [], [] => by simp [PySem.Spec.sameAll]
  | [], _ :: _ => by simp [PySem.Spec.sameAll]
  | _ :: _, [] => by simp [PySem.Spec.sameAll]
  | a :: r, b :: t => by
    simp only [List.map_cons, PySem.Spec.sameAll, PySem.Spec.same, sl_sameAll r t]
    by_cases h : a = b <;> by_cases h' : r = t <;> simp [h, h']
theorem sl_same (ns ms : List Str) : PySem.Spec.same (.list (ns.map PyData.str)) (.list (ms.map PyData.str)) = decide (ns = ms) := by
  simp only [PySem.Spec.same]; exact sl_sameAll ns ms
section
variable {prog : Program} {w : World} {A : Around} {E : Value → Shared → Prop} {s : Shared} {a b : Addr} {xs ys : List Value} {ns ms : List Str} {Q : Value → Shared → Prop}
theorem sl_ne (ha : s.heap.IsList a xs.toArray) (hb : s.heap.IsList b ys.toArray) (hi : StrsAre xs ns) (hj : StrsAre ys ms) (hn : ∀ x ∈ ns, PyData.strOk x = true) (hm : ∀ x ∈ ms, PyData.strOk x = true) (hu : A.units + 64 < cLine) (h : Q (.bool (!decide (ns = ms))) s) :
    wpAny (model prog w) A (compareOp .NotEq (.ref a) (.ref b)) Q E s :=
  ne_dataH_same (reads_newData ha (StrsAre.carried hi)) (reads_newData hb (StrsAre.carried hj)) (sl_shaped _ hn) (sl_shaped _ hm) hu (SeqAt.noMix_of_shape (.list .str) rfl _ _ (list_map_has fun _ => rfl) (list_map_has fun _ => rfl)) (by rw [sl_same]; exact h)
end
theorem li_canLayAll0 : ∀ ns : List Int, PyData.canLayAll0 (ns.map PyData.int) = true
  | [] => rfl
  | x :: r => by simp [PyData.canLayAll0, PyData.canLay0, li_canLayAll0 r]
theorem li_depthAll : ∀ ns : List Int, PyData.depthAll (ns.map PyData.int) = 0
  | [] => rfl
  | _ :: r => by simp [PyData.depthAll, PyData.depth, li_depthAll r]
theorem li_shaped (ns : List Int) : SeqAt.shaped (.list (ns.map PyData.int)) = true := by
  simp [SeqAt.shaped, PyData.canLay0, PyData.depth, li_canLayAll0 ns, li_depthAll]
theorem li_sameAll : ∀ ns ms : List Int, PySem.Spec.sameAll (ns.map PyData.int) (ms.map PyData.int) = decide (ns = ms)
  | [], [] => by simp [PySem.Spec.sameAll]
  | [], _ :: _ => by simp [PySem.Spec.sameAll]
  | _ :: _, [] => by simp [PySem.Spec.sameAll]
  | a :: r, b :: t => by
    simp only [List.map_cons, PySem.Spec.sameAll, PySem.Spec.same, li_sameAll r t]
    by_cases h : a = b <;> by_cases h' : r = t <;> simp [h, h']
theorem li_same (ns ms : List Int) : PySem.Spec.same (.list (ns.map PyData.int)) (.list (ms.map PyData.int)) = decide (ns = ms) := by
  simp only [PySem.Spec.same]; exact li_sameAll ns ms
section
variable {prog : Program} {w : World} {A : Around} {E : Value → Shared → Prop} {s : Shared} {a b : Addr} {xs ys : List Value} {ns ms : List Int} {Q : Value → Shared → Prop}
theorem li_ne (ha : s.heap.IsList a xs.toArray) (hb : s.heap.IsList b ys.toArray) (hi : IntsAre xs ns) (hj : IntsAre ys ms) (hu : A.units + 64 < cLine) (h : Q (.bool (!decide (ns = ms))) s) :
    wpAny (model prog w) A (compareOp .NotEq (.ref a) (.ref b)) Q E s :=
  ne_dataH_same (reads_newData ha (IntsAre.carried hi)) (reads_newData hb (IntsAre.carried hj)) (li_shaped _) (li_shaped _) hu (SeqAt.noMix_of_shape (.list .int) rfl _ _ (list_map_has fun _ => rfl) (list_map_has fun _ => rfl)) (by rw [li_same]; exact h)
end
end
-- part LI
section
open PySem PySem.Calls PyProof.Rows PySem.W
/-- a turn's end of a loop over a written list, with a state -/
def LiEnd {σ : Type} (h₀ : Heap) (L : Addr) (s : Shared) (I : Addr) (it : Obj) (lp : Addr × Obj) (Led : σ → List (Addr × Obj)) (ps : σ → List (Str × Value)) (stored : List Str) (m₀ : Str → Option Value) (J : σ → Prop) (s₂ : Shared) : Prop :=
  ∃ (c' : σ) (h' : Heap) (tk : Nat) (m' : Str → Option Value) (news' : List (Addr × Obj)), s₂ = { s with heap := h', toks := tk } ∧ Fr h₀ L h' m' ∧ News h₀ L h' news' ∧ (∀ p ∈ (I, it) :: lp :: Led c', p ∈ news') ∧ (∀ p ∈ ps c', m' p.1 = some p.2) ∧ (∀ z, (∀ p ∈ ps c', z ≠ p.1) → stored.contains z = false → m' z = m₀ z) ∧ J c'
def LiPost {σ : Type} (h₀ : Heap) (L : Addr) (s : Shared) (I : Addr) (it : Obj) (lp : Addr × Obj) (Led : σ → List (Addr × Obj)) (ps : σ → List (Str × Value)) (stored : List Str) (m₀ : Str → Option Value) (J : σ → Prop) (Q : Flow → Shared → Prop) (f : Flow) (s₂ : Shared) : Prop :=
  match f with
  | .ret v => Q (.ret v) s₂
  | .brk => Q .next s₂
  | _ => LiEnd h₀ L s I it lp Led ps stored m₀ J s₂
theorem li_end {σ : Type} {h₀ : Heap} {L : Addr} {s : Shared} {I : Addr} {it : Obj} {lp : Addr × Obj} {Led : σ → List (Addr × Obj)} {ps : σ → List (Str × Value)} {stored : List Str} {m₀ m' : Str → Option Value} {J : σ → Prop} {h' : Heap} {tk : Nat} {news' : List (Addr × Obj)} (c' : σ)
    (F : Fr h₀ L h' m') (N : News h₀ L h' news') (hn : ∀ p ∈ (I, it) :: lp :: Led c', p ∈ news') (hk : ∀ p ∈ ps c', m' p.1 = some p.2) (hr : ∀ z, (∀ p ∈ ps c', z ≠ p.1) → stored.contains z = false → m' z = m₀ z) (hj : J c') :
    LiEnd h₀ L s I it lp Led ps stored m₀ J { s with heap := h', toks := tk } := ⟨c', h', tk, m', news', rfl, F, N, hn, hk, hr, hj⟩
section
variable {prog : Program} {w : World} {A : Around} {E : Value → Shared → Prop} {Q : Flow → Shared → Prop} {s : Shared} {env : Env} {h₀ : Heap} {x : Str} {body : List Stmt} {I : Addr} {lp : Addr × Obj}
theorem lr_inv {σ : Type} (Led : σ → List (Addr × Obj)) (ps : σ → List (Str × Value)) (stored : List Str) (m₀ : Str → Option Value) (J : Nat → σ → Prop) (vs : List Value)
    (off : ∀ i c, J i c → ∀ p ∈ lp :: Led c, p.1 ≠ I)
    (turn : ∀ i v (c : σ) (u : Str → Option Value) (it : Obj) h tk, vs[i]? = some v → J i c → it.cls = .type "list_iterator" → Fr h₀ env.locals h (fun y => if y = x then some v else kstB (fun z => if stored.contains z then u z else m₀ z) (ps c) y) → News h₀ env.locals h ((I, it) :: lp :: Led c) →
      wpAny (model prog w) A (execs body env) (LiPost h₀ env.locals { s with heap := h, toks := tk } I it lp Led ps stored m₀ (J (i + 1)) Q) E { s with heap := h, toks := tk })
    (fin : ∀ (c : σ) (u : Str → Option Value) h tk, J vs.length c → Fr h₀ env.locals h (kstB (fun z => if stored.contains z then u z else m₀ z) (ps c)) → News h₀ env.locals h (lp :: Led c) → Q .next { s with heap := h, toks := tk }) :
    ∀ (r : List Value) (i : Nat) (c : σ) (m : Str → Option Value), vs.drop i = r → i ≤ vs.length → J i c → (∀ p ∈ ps c, m p.1 = some p.2) → (∀ z, (∀ p ∈ ps c, z ≠ p.1) → stored.contains z = false → m z = m₀ z) →
      ListRest prog w A E h₀ env x body Q s I lp r m (lp :: Led c) := by
  intro r
  induction r with
  | nil =>
    intro i c m hd hi hj h1 h2
    refine ListRest.zero fun h tk F N => ?_
    have hi' : i = vs.length := by
      have := congrArg List.length hd
      simp only [List.length_drop, List.length_nil] at this
      omega
    subst hi'
    exact fin c m h tk hj (ksw_fr h1 h2 F) N
  | cons v r ih =>
    intro i c m hd hi hj h1 h2
    have hlt : i < vs.length := by
      have := congrArg List.length hd
      simp only [List.length_drop, List.length_cons] at this
      omega
    have hv : vs[i]? = some v := by
      rw [← List.head?_drop, hd]; rfl
    have hr : vs.drop (i + 1) = r := by
      rw [← List.drop_drop, hd]; rfl
    refine ListRest.succ fun it h tk hit F N => ?_
    have em : (fun y => if y = x then some v else m y) = (fun y => if y = x then some v else kstB (fun z => if stored.contains z then m z else m₀ z) (ps c) y) := by
      funext y
      have em : kstB (fun z => if stored.contains z then m z else m₀ z) (ps c) = m := by
        funext y
        refine kstB_eq h1 fun hn => ?_
        show (if stored.contains y = true then m y else m₀ y) = m y
        cases h3 : stored.contains y with
        | true => simp
        | false => simp only [Bool.false_eq_true, if_false]; exact (h2 y hn h3).symm
      rw [em]
    refine wpAny_mono (turn i v c m it h tk hv hj hit (em ▸ F) N) (fun f s₂ q => ?_) fun _ _ e => e
    have fin2 : LiEnd h₀ env.locals { s with heap := h, toks := tk } I it lp Led ps stored m₀ (J (i + 1)) s₂ → UnrEnd h₀ env.locals { s with heap := h, toks := tk } I it (fun m' n' => lp ∈ n' ∧ ListRest prog w A E h₀ env x body Q s I lp r m' n') s₂ := by
      rintro ⟨c', h', tk', m', news', rfl, F', N', hn, hk, hr', hj'⟩
      exact UnrEnd.intro F' N' (lp :: Led c') hn (off _ c' hj') ⟨.head _, ih (i + 1) c' m' hr hlt hj' hk hr'⟩
    cases f with
    | ret v => exact q
    | brk => exact q
    | next => exact fin2 q
    | cont => exact fin2 q
/-- a turn's end of a loop over a written range, with a state -/
def RiEnd {σ : Type} (h₀ : Heap) (L : Addr) (s : Shared) (I : Addr) (it : Obj) (Led : σ → List (Addr × Obj)) (ps : σ → List (Str × Value)) (stored : List Str) (m₀ : Str → Option Value) (J : σ → Prop) (s₂ : Shared) : Prop :=
  ∃ (c' : σ) (h' : Heap) (tk : Nat) (m' : Str → Option Value) (news' : List (Addr × Obj)), s₂ = { s with heap := h', toks := tk } ∧ Fr h₀ L h' m' ∧ News h₀ L h' news' ∧ (∀ p ∈ (I, it) :: Led c', p ∈ news') ∧ (∀ p ∈ ps c', m' p.1 = some p.2) ∧ (∀ z, (∀ p ∈ ps c', z ≠ p.1) → stored.contains z = false → m' z = m₀ z) ∧ J c'
def RiPost {σ : Type} (h₀ : Heap) (L : Addr) (s : Shared) (I : Addr) (it : Obj) (Led : σ → List (Addr × Obj)) (ps : σ → List (Str × Value)) (stored : List Str) (m₀ : Str → Option Value) (J : σ → Prop) (Q : Flow → Shared → Prop) (f : Flow) (s₂ : Shared) : Prop :=
  match f with
  | .ret v => Q (.ret v) s₂
  | .brk => Q .next s₂
  | _ => RiEnd h₀ L s I it Led ps stored m₀ J s₂
theorem ri_end {σ : Type} {h₀ : Heap} {L : Addr} {s : Shared} {I : Addr} {it : Obj} {Led : σ → List (Addr × Obj)} {ps : σ → List (Str × Value)} {stored : List Str} {m₀ m' : Str → Option Value} {J : σ → Prop} {h' : Heap} {tk : Nat} {news' : List (Addr × Obj)} (c' : σ)
    (F : Fr h₀ L h' m') (N : News h₀ L h' news') (hn : ∀ p ∈ (I, it) :: Led c', p ∈ news') (hk : ∀ p ∈ ps c', m' p.1 = some p.2) (hr : ∀ z, (∀ p ∈ ps c', z ≠ p.1) → stored.contains z = false → m' z = m₀ z) (hj : J c') :
    RiEnd h₀ L s I it Led ps stored m₀ J { s with heap := h', toks := tk } := ⟨c', h', tk, m', news', rfl, F, N, hn, hk, hr, hj⟩
theorem kst_same {m m₀ : Str → Option Value} {ps : List (Str × Value)} {stored : List Str} (h1 : ∀ p ∈ ps, m p.1 = some p.2) (h2 : ∀ z, (∀ p ∈ ps, z ≠ p.1) → stored.contains z = false → m z = m₀ z) : kstB (fun z => if stored.contains z then m z else m₀ z) ps = m := by
  funext y
  refine kstB_eq h1 fun hn => ?_
  show (if stored.contains y = true then m y else m₀ y) = m y
  cases h3 : stored.contains y with
  | true => simp
  | false => simp only [Bool.false_eq_true, if_false]; exact (h2 y hn h3).symm
theorem rr_inv {σ : Type} {a : Int} {n : Nat} (Led : σ → List (Addr × Obj)) (ps : σ → List (Str × Value)) (stored : List Str) (m₀ : Str → Option Value) (J : Nat → σ → Prop)
    (off : ∀ i c, J i c → ∀ p ∈ Led c, p.1 ≠ I)
    (turn : ∀ i (c : σ) (u : Str → Option Value) t h tk, i < n → J i c → Fr h₀ env.locals h (fun y => if y = x then some (.int (a + (i : Int)) t) else kstB (fun z => if stored.contains z then u z else m₀ z) (ps c) y) → News h₀ env.locals h ((I, itR (a + ((i + 1 : Nat) : Int)) ((n : Int) - ((i + 1 : Nat) : Int))) :: Led c) →
      wpAny (model prog w) A (execs body env) (RiPost h₀ env.locals { s with heap := h, toks := tk } I (itR (a + ((i + 1 : Nat) : Int)) ((n : Int) - ((i + 1 : Nat) : Int))) Led ps stored m₀ (J (i + 1)) Q) E { s with heap := h, toks := tk })
    (fin : ∀ (c : σ) (u : Str → Option Value) h tk, J n c → Fr h₀ env.locals h (kstB (fun z => if stored.contains z then u z else m₀ z) (ps c)) → News h₀ env.locals h (Led c) → Q .next { s with heap := h, toks := tk }) :
    ∀ (k i : Nat) (c : σ) (m : Str → Option Value), i + k = n → J i c → (∀ p ∈ ps c, m p.1 = some p.2) → (∀ z, (∀ p ∈ ps c, z ≠ p.1) → stored.contains z = false → m z = m₀ z) →
      RangeRest prog w A E h₀ env x body Q s I a n k i m (Led c) := by
  intro k
  induction k with
  | zero =>
    intro i c m hd hj h1 h2
    refine RangeRest.zero fun h tk F N => ?_
    have hi' : i = n := hd
    subst hi'
    exact fin c m h tk hj (ksw_fr h1 h2 F) N
  | succ k ih =>
    intro i c m hd hj h1 h2
    refine RangeRest.succ fun t h tk F N => ?_
    refine wpAny_mono (turn i c m t h tk (by omega) hj (by rw [kst_same h1 h2]; exact F) N) (fun f s₂ q => ?_) fun _ _ e => e
    have fin2 : RiEnd h₀ env.locals { s with heap := h, toks := tk } I (itR (a + ((i + 1 : Nat) : Int)) ((n : Int) - ((i + 1 : Nat) : Int))) Led ps stored m₀ (J (i + 1)) s₂ → UnrEnd h₀ env.locals { s with heap := h, toks := tk } I (itR (a + ((i + 1 : Nat) : Int)) ((n : Int) - ((i + 1 : Nat) : Int))) (RangeRest prog w A E h₀ env x body Q s I a n k (i + 1)) s₂ := by
      rintro ⟨c', h', tk', m', news', rfl, F', N', hn, hk, hr', hj'⟩
      exact UnrEnd.intro F' N' (Led c') hn (off _ c' hj') (ih (i + 1) c' m' (by omega) hj' hk hr')
    cases f with
    | ret v => exact q
    | brk => exact q
    | next => exact fin2 q
    | cont => exact fin2 q
end
theorem News.ne_cls {h₀ h : Heap} {L a b : Addr} {o o' : Obj} {news : List (Addr × Obj)} (N : News h₀ L h news) (h1 : (a, o) ∈ news) (h2 : (b, o') ∈ news) (hc : o.cls ≠ o'.cls) : a ≠ b := by
  intro e
  have a1 := N.get h1
  have a2 := N.get h2
  rw [e, a2] at a1
  exact hc (congrArg Obj.cls (Option.some.inj a1)).symm
theorem app_upd {prog : Program} {w : World} {A : Around} {E : Value → Shared → Prop} {s : Shared} {h₀ : Heap} {L D : Addr} {m : Str → Option Value} {news news' : List (Addr × Obj)} {vs : List Value} {v : Value} {n : Nat} {Q : Value → Shared → Prop}
    (F : Fr h₀ L s.heap m) (N : News h₀ L s.heap news) (U : Upd D (W.listOf vs.toArray n) (W.listOf (vs ++ [v]).toArray (n + 1)) news news') (hsz : vs.length ≤ sizeLine)
    (h : ∀ h', Fr h₀ L h' m → News h₀ L h' news' → Q .none { s with heap := h' }) :
    wpAny (model prog w) A (call (.builtin "list.append") [.ref D, v]) Q E s := by
  obtain ⟨pre, post, rfl, rfl, a, b⟩ := U.split
  have hD := N (D, W.listOf vs.toArray n) (by simp)
  refine append_at (hsz := by simpa using hsz) hD.1 fun h' hs ho' => h h' (F.change hs hD.2.1 hD.2.2) fun p hp => ?_
  rcases List.mem_append.mp hp with hp | hp
  · have P := N p (List.mem_append_left _ hp)
    exact ⟨(hs.2 p.1 (a p hp)).trans P.1, P.2⟩
  · rcases List.mem_cons.mp hp with rfl | hp
    · refine ⟨ho'.trans ?_, hD.2⟩
      rw [← List.push_toArray]
    · have P := N p (List.mem_append_right _ (.tail _ hp))
      exact ⟨(hs.2 p.1 (b p hp)).trans P.1, P.2⟩
end
-- part PJ
section
open PySem PySem.Calls PyProof.Rows PySem.W
theorem hex_dec : ∀ a, a < 16 → ∀ d, d < 11 → (fun l : List Nat => decide (6 ≤ l.length) && decide (l.length ≤ 16) && l.all hexc) (Txt.slice (Txt.mul (Str.ofString "0123456789abcdef") 2) (some ((a : Nat) : Int)) (some ((a : Int) + 6 + ((d : Nat) : Int)))).cps.toList = true := by decide +kernel
theorem hexS_ok (x : Int) : 6 ≤ (hexS x).length ∧ (hexS x).length ≤ 16 ∧ ∀ c ∈ hexS x, hexc c = true := by
  have a0 := Int.fmod_nonneg_of_pos x (by decide : (0 : Int) < 16)
  have a1 := Int.fmod_lt_of_pos x (by decide : (0 : Int) < 16)
  have d0 := Int.fmod_nonneg_of_pos x (by decide : (0 : Int) < 11)
  have d1 := Int.fmod_lt_of_pos x (by decide : (0 : Int) < 11)
  have h := hex_dec (x.fmod 16).toNat (by omega) (x.fmod 11).toNat (by omega)
  rw [Int.toNat_of_nonneg a0, Int.toNat_of_nonneg d0] at h
  simp only [Bool.and_eq_true, decide_eq_true_eq, List.all_eq_true] at h
  exact ⟨h.1.1, h.1.2, h.2⟩
theorem WF.wrap {core segs} (x : WF core segs) (h : Int) (hl : segs.length < 40) : WF core (segs ++ [some (hexS h)]) := by
  refine ⟨x.c, fun v hv => ?_, by rw [List.length_append]; simp only [List.length_cons, List.length_nil]; omega⟩
  rcases List.mem_append.mp hv with hv | hv
  · exact x.h v hv
  · cases List.mem_singleton.mp hv
    exact hexS_ok h
theorem WF.len {core segs} (x : WF core segs) : (rend core segs).length ≤ 100000 := by
  have := (rendL_len x).2
  show (rendL core segs).toArray.size ≤ 100000
  rw [List.size_toArray]; omega
theorem WF.ok {core segs} (x : WF core segs) : PyData.strOk (rend core segs) = true := by
  unfold PyData.strOk rend
  simp only [List.all_toArray, List.all_eq_true, decide_eq_true_eq]
  intro c hc
  have := okc_lt (rend_ok x c hc)
  omega
theorem rendL_take {core segs} (h : core = core5 ∨ core = core17) : (rendL core segs).takeWhile (· == 60) = List.replicate (segs.length + 1) 60 := by
  obtain ⟨k, hk, _⟩ := core_parts h
  unfold rendL
  rw [hk, List.takeWhile_append_of_pos (by intro a ha; rw [(List.mem_replicate.mp ha).2]; rfl), List.replicate_succ']
  rfl
theorem rend_len {core a b} (x : WF core a) (h : rend core a = rend core b) : a.length = b.length := by
  have e : rendL core a = rendL core b := by
    have := congrArg (fun y : Str => y.cps.toList) h
    simpa [rend] using this
  have e2 := congrArg (fun l : List Nat => (l.takeWhile (· == 60)).length) e
  simp only [rendL_take x.c, List.length_replicate] at e2
  omega
theorem ids_wrap (segs : List (Option (List Nat))) (h : List Nat) : ids (segs ++ [some h]) = ids segs + 1 := by
  unfold ids; rw [List.countP_append]; rfl
theorem rend_ne {core segs} (x : WF core segs) : (rend core segs == Str.ofString "") = false := by
  refine beq_eq_false_iff_ne.mpr fun e => ?_
  have := congrArg (fun y : Str => y.cps.size) e
  have h1 : (rend core segs).cps.size = (rendL core segs).length := by simp [rend]
  have h2 : (Str.ofString "").cps.size = 0 := by decide +kernel
  simp only [h1, h2] at this
  have := (rendL_len x).1
  omega
structure PS where
  l : Addr
  b : Addr
  s0 : List (Option (List Nat))
  s1 : List (Option (List Nat))
  s2 : List (Option (List Nat))
  s3 : List (Option (List Nat))
  x0 : Tok
  x1 : Tok
  x2 : Tok
  x3 : Tok
  kl : Nat
  bs : List Value
  ys : List Str
  kb : Nat
  c0 : Int
  c1 : Int
  c2 : Int
  c3 : Int
  y0 : Tok
  y1 : Tok
  y2 : Tok
  y3 : Tok
  kc : Nat
  ps : Array Value
  ext : List (Addr × Obj)
def PS.led (cl : Addr) (core : List Nat) (rest : List (Addr × Obj)) (c : PS) : List (Addr × Obj) :=
  (c.l, W.listOf #[.str (rend core c.s0) c.x0, .str (rend core c.s1) c.x1, .str (rend core c.s2) c.x2, .str (rend core c.s3) c.x3] c.kl) ::
  (c.b, W.listOf c.bs.toArray c.kb) :: (cl, W.listOf #[.int c.c0 c.y0, .int c.c1 c.y1, .int c.c2 c.y2, .int c.c3 c.y3] c.kc) :: (45, tabObj c.ps) :: (c.ext ++ rest)
def PS.names (c : PS) : List (Str × Value) := [(Str.ofString "nests", .ref c.l), (Str.ofString "before", .ref c.b)]
def PS.tx (core : List Nat) (c : PS) : List Str := [rend core c.s0, rend core c.s1, rend core c.s2, rend core c.s3]
structure PS.Facts (core : List Nat) (cl : Addr) (c : PS) : Prop where
  ne1 : c.l ≠ cl
  ne2 : c.b ≠ cl
  ne3 : 45 ≠ cl
  ne4 : ∀ p ∈ c.ext, p.1 ≠ cl
  tab : StripTab c.ps c.ext
  w0 : WF core c.s0
  w1 : WF core c.s1
  w2 : WF core c.s2
  w3 : WF core c.s3
  bs : StrsAre c.bs c.ys
  ok : ∀ x ∈ c.ys, PyData.strOk x = true
structure PS.N (n0 n1 n2 n3 : Int) (c : PS) : Prop where
  l0 : (c.s0.length : Int) = n0
  l1 : (c.s1.length : Int) = n1 + c.c0
  l2 : (c.s2.length : Int) = n2 + c.c1
  l3 : (c.s3.length : Int) = n3 + c.c2
  i0 : (ids c.s0 : Int) + 3 * c.c0 = n0
  i1 : (ids c.s1 : Int) + 3 * c.c1 = n1 + c.c0
  i2 : (ids c.s2 : Int) + 3 * c.c2 = n2 + c.c1
  i3 : (ids c.s3 : Int) = n3 + c.c2
  z0 : 0 ≤ c.c0
  z1 : 0 ≤ c.c1
  z2 : 0 ≤ c.c2
  z3 : c.c3 = 0
structure PS.P (core : List Nat) (n0 n1 n2 n3 : Int) (c : PS) : Prop extends PS.N n0 n1 n2 n3 c where
  nx : c.ys = [] ∨ c.ext ≠ []
  e : c.ys = c.tx core → ids c.s0 < 3 ∧ ids c.s1 < 3 ∧ ids c.s2 < 3
open Classical in
noncomputable def PS.mu (core : List Nat) (c : PS) : Nat := 2 * (ids c.s0 + ids c.s1 + ids c.s2 + ids c.s3) + (if c.ys = c.tx core then 0 else 1)
structure PS.J (core : List Nat) (cl I : Addr) (n0 n1 n2 n3 : Int) (ys : List Str) (b : Addr) (S0 S1 S2 S3 : List (Option (List Nat))) (i : Nat) (c : PS) : Prop extends PS.Facts core cl c, PS.N n0 n1 n2 n3 c where
  o1 : c.l ≠ I
  o4 : ∀ p ∈ c.ext, p.1 ≠ I
  hb : c.b = b
  hys : c.ys = ys
  full : 1 ≤ i → c.ext ≠ []
  chg : (c.s0 = S0 ∧ c.s1 = S1 ∧ c.s2 = S2 ∧ c.s3 = S3 ∧ (1 ≤ i → ids S2 < 3) ∧ (2 ≤ i → ids S1 < 3) ∧ (3 ≤ i → ids S0 < 3)) ∨
    (S0.length + S1.length + S2.length + S3.length < c.s0.length + c.s1.length + c.s2.length + c.s3.length ∧ ids c.s0 + ids c.s1 + ids c.s2 + ids c.s3 + 2 ≤ ids S0 + ids S1 + ids S2 + ids S3)
section
variable {core : List Nat} {cl I D b : Addr} {n0 n1 n2 n3 : Int} {ys : List Str} {S0 S1 S2 S3 : List (Option (List Nat))} {c : PS} {news : List (Addr × Obj)} {ps' : Array Value} {ext' : List (Addr × Obj)} {t t' u : Tok} {k : Nat} {h : Int}
theorem ext_off (h4 : ∀ p ∈ c.ext, p.1 ≠ cl) (hx : TabNext news c.ps c.ext ps' ext') (hm : ∃ o, (cl, o) ∈ news) : ∀ p ∈ ext', p.1 ≠ cl := by
  obtain ⟨o, ho⟩ := hm
  intro p hp
  rcases hx.above p hp with k | k
  · exact h4 p k
  · exact Nat.ne_of_gt (k _ ho)
theorem PS.J.same {i : Nat} (hJ : PS.J core cl I n0 n1 n2 n3 ys b S0 S1 S2 S3 i c) (hx : TabNext news c.ps c.ext ps' ext') (hm : ∃ o, (cl, o) ∈ news) (hm2 : ∃ o, (I, o) ∈ news)
    (hi : (i = 0 ∧ ids c.s2 < 3) ∨ (i = 1 ∧ ids c.s1 < 3) ∨ (i = 2 ∧ ids c.s0 < 3)) : PS.J core cl I n0 n1 n2 n3 ys b S0 S1 S2 S3 (i + 1) { c with ps := ps', ext := ext' } := by
  refine ⟨⟨hJ.ne1, hJ.ne2, hJ.ne3, ext_off hJ.ne4 hx hm, hx.tab, hJ.w0, hJ.w1, hJ.w2, hJ.w3, hJ.bs, hJ.ok⟩, ⟨hJ.l0, hJ.l1, hJ.l2, hJ.l3, hJ.i0, hJ.i1, hJ.i2, hJ.i3, hJ.z0, hJ.z1, hJ.z2, hJ.z3⟩, hJ.o1, ext_off hJ.o4 hx hm2, hJ.hb, hJ.hys, fun _ => hx.full, ?_⟩
  rcases hJ.chg with ⟨a0, a1, a2, a3, v1, v2, v3⟩ | h
  · refine .inl ⟨a0, a1, a2, a3, ?_, ?_, ?_⟩
    · intro _; rcases hi with ⟨e, h⟩ | ⟨e, h⟩ | ⟨e, h⟩
      · exact a2 ▸ h
      · exact v1 (by omega)
      · exact v1 (by omega)
    · intro h2; rcases hi with ⟨e, h⟩ | ⟨e, h⟩ | ⟨e, h⟩
      · omega
      · exact a1 ▸ h
      · exact v2 (by omega)
    · intro h2; rcases hi with ⟨e, h⟩ | ⟨e, h⟩ | ⟨e, h⟩
      · omega
      · omega
      · exact a0 ▸ h
  · exact .inr h
theorem PS.J.two (hJ : PS.J core cl I n0 n1 n2 n3 ys b S0 S1 S2 S3 0 c) (hn : n0 ≤ 6 ∧ n1 ≤ 6 ∧ n2 ≤ 6 ∧ n3 ≤ 6) (h3 : 3 ≤ ids c.s2) (hx : TabNext news c.ps c.ext ps' ext') (hm : ∃ o, (cl, o) ∈ news) (hm2 : ∃ o, (I, o) ∈ news) (hD : cl < D) (hD2 : I < D) :
    PS.J core cl I n0 n1 n2 n3 ys b S0 S1 S2 S3 1 ⟨D, c.b, c.s0, c.s1, stripL (stripL (stripL c.s2)), c.s3 ++ [some (hexS h)], c.x0, c.x1, t, t', k, c.bs, c.ys, c.kb, c.c0, c.c1, c.c2 + 1, c.c3, c.y0, c.y1, u, c.y3, c.kc, ps', ext'⟩ := by
  have hl := hJ.l0; have hl1 := hJ.l1; have hl2 := hJ.l2; have hl3 := hJ.l3; have hi0 := hJ.i0; have hi1 := hJ.i1; have hi2 := hJ.i2; have hi3 := hJ.i3; have z0 := hJ.z0; have z1 := hJ.z1; have z2 := hJ.z2
  have e1 : ids (stripL (stripL (stripL c.s2))) = ids c.s2 - 1 - 1 - 1 := by rw [ids_strip, ids_strip, ids_strip]
  have e2 : (stripL (stripL (stripL c.s2))).length = c.s2.length := by rw [stripL_length, stripL_length, stripL_length]
  refine ⟨⟨Nat.ne_of_gt hD, hJ.ne2, hJ.ne3, ext_off hJ.ne4 hx hm, hx.tab, hJ.w0, hJ.w1, hJ.w2.strip.strip.strip, hJ.w3.wrap h (by omega), hJ.bs, hJ.ok⟩, ⟨hJ.l0, hJ.l1, ?_, ?_, hJ.i0, hJ.i1, ?_, ?_, hJ.z0, hJ.z1, ?_, hJ.z3⟩, Nat.ne_of_gt hD2, ext_off hJ.o4 hx hm2, hJ.hb, hJ.hys, fun _ => hx.full, .inr ⟨?_, ?_⟩⟩ <;> dsimp only
  · omega
  · rw [List.length_append]; simp only [List.length_cons, List.length_nil]; omega
  · omega
  · rw [ids_wrap]; omega
  · omega
  · rw [List.length_append]; simp only [List.length_cons, List.length_nil]
    rcases hJ.chg with ⟨a0, a1, a2, a3, v1, v2, v3⟩ | ⟨h, h'⟩
    · subst a0 a1 a2 a3; omega
    · omega
  · rw [ids_wrap]
    rcases hJ.chg with ⟨a0, a1, a2, a3, v1, v2, v3⟩ | ⟨h, h'⟩
    · subst a0 a1 a2 a3; omega
    · omega
theorem PS.J.one (hJ : PS.J core cl I n0 n1 n2 n3 ys b S0 S1 S2 S3 1 c) (hn : n0 ≤ 6 ∧ n1 ≤ 6 ∧ n2 ≤ 6 ∧ n3 ≤ 6) (h3 : 3 ≤ ids c.s1) (hx : TabNext news c.ps c.ext ps' ext') (hm : ∃ o, (cl, o) ∈ news) (hm2 : ∃ o, (I, o) ∈ news) (hD : cl < D) (hD2 : I < D) :
    PS.J core cl I n0 n1 n2 n3 ys b S0 S1 S2 S3 2 ⟨D, c.b, c.s0, stripL (stripL (stripL c.s1)), c.s2 ++ [some (hexS h)], c.s3, c.x0, t, t', c.x3, k, c.bs, c.ys, c.kb, c.c0, c.c1 + 1, c.c2, c.c3, c.y0, u, c.y2, c.y3, c.kc, ps', ext'⟩ := by
  have hl := hJ.l0; have hl1 := hJ.l1; have hl2 := hJ.l2; have hl3 := hJ.l3; have hi0 := hJ.i0; have hi1 := hJ.i1; have hi2 := hJ.i2; have hi3 := hJ.i3; have z0 := hJ.z0; have z1 := hJ.z1; have z2 := hJ.z2
  have e1 : ids (stripL (stripL (stripL c.s1))) = ids c.s1 - 1 - 1 - 1 := by rw [ids_strip, ids_strip, ids_strip]
  have e2 : (stripL (stripL (stripL c.s1))).length = c.s1.length := by rw [stripL_length, stripL_length, stripL_length]
  refine ⟨⟨Nat.ne_of_gt hD, hJ.ne2, hJ.ne3, ext_off hJ.ne4 hx hm, hx.tab, hJ.w0, hJ.w1.strip.strip.strip, hJ.w2.wrap h (by omega), hJ.w3, hJ.bs, hJ.ok⟩, ⟨hJ.l0, ?_, ?_, hJ.l3, hJ.i0, ?_, ?_, hJ.i3, hJ.z0, ?_, hJ.z2, hJ.z3⟩, Nat.ne_of_gt hD2, ext_off hJ.o4 hx hm2, hJ.hb, hJ.hys, fun _ => hx.full, .inr ⟨?_, ?_⟩⟩ <;> dsimp only
  · omega
  · rw [List.length_append]; simp only [List.length_cons, List.length_nil]; omega
  · omega
  · rw [ids_wrap]; omega
  · omega
  · rw [List.length_append]; simp only [List.length_cons, List.length_nil]
    rcases hJ.chg with ⟨a0, a1, a2, a3, v1, v2, v3⟩ | ⟨h, h'⟩
    · subst a0 a1 a2 a3; omega
    · omega
  · rw [ids_wrap]
    rcases hJ.chg with ⟨a0, a1, a2, a3, v1, v2, v3⟩ | ⟨h, h'⟩
    · subst a0 a1 a2 a3; omega
    · omega
theorem PS.J.zero (hJ : PS.J core cl I n0 n1 n2 n3 ys b S0 S1 S2 S3 2 c) (hn : n0 ≤ 6 ∧ n1 ≤ 6 ∧ n2 ≤ 6 ∧ n3 ≤ 6) (h3 : 3 ≤ ids c.s0) (hx : TabNext news c.ps c.ext ps' ext') (hm : ∃ o, (cl, o) ∈ news) (hm2 : ∃ o, (I, o) ∈ news) (hD : cl < D) (hD2 : I < D) :
    PS.J core cl I n0 n1 n2 n3 ys b S0 S1 S2 S3 3 ⟨D, c.b, stripL (stripL (stripL c.s0)), c.s1 ++ [some (hexS h)], c.s2, c.s3, t, t', c.x2, c.x3, k, c.bs, c.ys, c.kb, c.c0 + 1, c.c1, c.c2, c.c3, u, c.y1, c.y2, c.y3, c.kc, ps', ext'⟩ := by
  have hl := hJ.l0; have hl1 := hJ.l1; have hl2 := hJ.l2; have hl3 := hJ.l3; have hi0 := hJ.i0; have hi1 := hJ.i1; have hi2 := hJ.i2; have hi3 := hJ.i3; have z0 := hJ.z0; have z1 := hJ.z1; have z2 := hJ.z2
  have e1 : ids (stripL (stripL (stripL c.s0))) = ids c.s0 - 1 - 1 - 1 := by rw [ids_strip, ids_strip, ids_strip]
  have e2 : (stripL (stripL (stripL c.s0))).length = c.s0.length := by rw [stripL_length, stripL_length, stripL_length]
  refine ⟨⟨Nat.ne_of_gt hD, hJ.ne2, hJ.ne3, ext_off hJ.ne4 hx hm, hx.tab, hJ.w0.strip.strip.strip, hJ.w1.wrap h (by omega), hJ.w2, hJ.w3, hJ.bs, hJ.ok⟩, ⟨?_, ?_, hJ.l2, hJ.l3, ?_, ?_, hJ.i2, hJ.i3, ?_, hJ.z1, hJ.z2, hJ.z3⟩, Nat.ne_of_gt hD2, ext_off hJ.o4 hx hm2, hJ.hb, hJ.hys, fun _ => hx.full, .inr ⟨?_, ?_⟩⟩ <;> dsimp only
  · omega
  · rw [List.length_append]; simp only [List.length_cons, List.length_nil]; omega
  · omega
  · rw [ids_wrap]; omega
  · omega
  · rw [List.length_append]; simp only [List.length_cons, List.length_nil]
    rcases hJ.chg with ⟨a0, a1, a2, a3, v1, v2, v3⟩ | ⟨h, h'⟩
    · subst a0 a1 a2 a3; omega
    · omega
  · rw [ids_wrap]
    rcases hJ.chg with ⟨a0, a1, a2, a3, v1, v2, v3⟩ | ⟨h, h'⟩
    · subst a0 a1 a2 a3; omega
    · omega
theorem PS.J.toP (hJ : PS.J core cl I n0 n1 n2 n3 [rend core S0, rend core S1, rend core S2, rend core S3] b S0 S1 S2 S3 3 c) : PS.P core n0 n1 n2 n3 c := by
  refine ⟨hJ.toN, .inr (hJ.full (by decide)), fun h => ?_⟩
  rcases hJ.chg with ⟨a0, a1, a2, a3, v1, v2, v3⟩ | ⟨h1, _⟩
  · rw [a0, a1, a2]; exact ⟨v3 (by decide), v2 (by decide), v1 (by decide)⟩
  · rw [hJ.hys] at h
    unfold PS.tx at h
    simp only [List.cons.injEq, and_true] at h
    obtain ⟨e0, e1, e2, e3⟩ := h
    have := rend_len hJ.w0 e0.symm
    have := rend_len hJ.w1 e1.symm
    have := rend_len hJ.w2 e2.symm
    have := rend_len hJ.w3 e3.symm
    omega
theorem PS.J.mu {c₀ : PS} (hJ : PS.J core cl I n0 n1 n2 n3 [rend core S0, rend core S1, rend core S2, rend core S3] b S0 S1 S2 S3 3 c) (h : c₀.ys ≠ c₀.tx core) (h0 : c₀.s0 = S0) (h1 : c₀.s1 = S1) (h2 : c₀.s2 = S2) (h3 : c₀.s3 = S3) : c.mu core < c₀.mu core := by
  unfold PS.mu
  rw [if_neg h, h0, h1, h2, h3]
  rcases hJ.chg with ⟨a0, a1, a2, a3, v1, v2, v3⟩ | ⟨_, h1⟩
  · rw [if_pos (by rw [hJ.hys]; unfold PS.tx; rw [a0, a1, a2, a3]), a0, a1, a2, a3]; omega
  · split <;> omega
end
end
-- part PE7
section
open PySem PySem.Calls PyProof.Rows PySem.W
section
variable {w : World} {mean : ExcName → Option Value} {mg mb : Str → Option Value} {loose : List Str} {news ext : List (Addr × Obj)} {g : Array Value → List (Addr × Obj) → List (Addr × Obj)} {ps : Array Value} {core : List Nat} {segs : List (Option (List Nat))} {tx t2 : Tok} {x : Int}
    {dp un : Nat} {gd : Option (List Code)} {cn : Str} {cs : Scope} {a : Addr} {ccd : Value} {cl : List (Str × Addr)} {outer : List Env} {A₀ : Around} {base h₀ : Heap} {L : Addr} {m : Str → Option Value} {s : Shared} {Q E : Value → Shared → Prop}
theorem three_L (hW : WF core segs) (hTab : StripTab ps ext) (U : Led news ps ext g)
    (hB : Below A₀ base outer h₀) (hF : Fr h₀ L s.heap m) (hX : (hd.heap_39 w.params).In h₀) (hN : News h₀ L s.heap news) (hT : Top topProg loose mean mg mb h₀) (hC : CodeHd h₀ 49 45) (hk : cs.kind = .function)
    (hdp : dp + 5 < recursionLimit) (hun : un + 40 < cLine)
    (hlt : ids segs < 3 → ∀ (t : Tok) (h' : Heap) (tk' : Nat) (ps' : Array Value) (ext' : List (Addr × Obj)), TabNext news ps ext ps' ext' → Fr h₀ L h' m → News h₀ L h' (g ps' ext') → Q (.str (Str.ofString "") t) { s with heap := h', toks := tk' })
    (hge : 3 ≤ ids segs → (rend core (stripL (stripL (stripL segs))) != Str.ofString "") = true → ∀ (t : Tok) (h' : Heap) (tk' : Nat) (ps' : Array Value) (ext' : List (Addr × Obj)), TabNext news ps ext ps' ext' → Fr h₀ L h' m → News h₀ L h' (g ps' ext') → Q (.str (rend core (stripL (stripL (stripL segs)))) t) { s with heap := h', toks := tk' }) :
    wpAny (model PySem.Challenge.rw_wb0014_01.row.prog w) (ktrTop dp un gd cn cs L a ccd cl outer) (call (.ref 69) [.str (rend core segs) tx]) Q E s := by
  obtain ⟨R, r1, r2, r3, r4⟩ := U.to hN
  refine three_ok w mean mg mb loose R ext ps core segs tx hW hTab r1 dp un gd cn cs a ccd cl outer A₀ base h₀ L m s Q E hB hF hX (r2 hN) hT hC hk hdp hun fun y t h' tk' ps' ext' hy a b c => ?_
  by_cases h3 : ids segs < 3
  · rw [if_pos h3] at hy; subst hy; exact hlt h3 t h' tk' ps' ext' (a.mono r4) b (r3 c)
  · rw [if_neg h3] at hy; subst hy; exact hge (by omega) (by rw [bne, rend_ne hW.strip.strip.strip]; rfl) t h' tk' ps' ext' (a.mono r4) b (r3 c)
theorem wrapped_c (hlen : (rend core segs).length ≤ 100000)
    (hB : Below A₀ base outer h₀) (hF : Fr h₀ L s.heap m) (hX : (hd.heap_39 w.params).In h₀) (hN : News h₀ L s.heap news) (hT : Top topProg loose mean mg mb h₀) (hk : cs.kind = .function)
    (hdp : dp + 4 < recursionLimit) (hun : un + 30 < cLine)
    (hret : ∀ (t : Tok) (h' : Heap) (tk' : Nat), Fr h₀ L h' m → News h₀ L h' news → Q (.str (rend core (segs ++ [some (hexS x)])) t) { s with heap := h', toks := tk' }) :
    wpAny (model PySem.Challenge.rw_wb0014_01.row.prog w) (ktrTop dp un gd cn cs L a ccd cl outer) (call (.ref 62) [.str (rend core segs) tx, .int x t2]) Q E s :=
  wrapped_ok w mean mg mb loose news core segs x tx t2 hlen dp un gd cn cs a ccd cl outer A₀ base h₀ L m s Q E hB hF hX hN hT hk hdp hun hret
end
theorem it_ne {it : Obj} {ps : Array Value} (h : it.cls = .type "list_iterator") : it ≠ tabObj ps := by
  intro e; rw [e] at h; cases h
theorem getD4_0 (a b c d : Int) : [a, b, c, d].getD (Int.toNat 0) 0 = a := rfl
theorem getD4_1 (a b c d : Int) : [a, b, c, d].getD (Int.toNat 1) 0 = b := rfl
theorem getD4_2 (a b c d : Int) : [a, b, c, d].getD (Int.toNat 2) 0 = c := rfl
theorem tail_cl {cl : Addr} {ext rest news ext1 : List (Addr × Obj)} {ps ps1 : Array Value} (h4 : ∀ p ∈ ext, p.1 ≠ cl) (hr : ∀ p ∈ rest, p.1 ≠ cl) (h : TabNext news ps ext ps1 ext1) (hm : ∃ o, (cl, o) ∈ news) : ∀ p ∈ ext1 ++ rest, p.1 ≠ cl := by
  obtain ⟨o, ho⟩ := hm
  intro p hp
  rcases List.mem_append.mp hp with hp | hp
  · rcases h.above p hp with k | k
    · exact h4 p k
    · exact Nat.ne_of_gt (k _ ho)
  · exact hr p hp
section
variable {prog : Program} {w : World} {A : Around} {E : Value → Shared → Prop} {s : Shared} {h₀ : Heap} {L D : Addr} {m : Str → Option Value} {news news' : List (Addr × Obj)} {a b c d x : Int} {ta tb tc td t u : Tok} {n : Nat} {Q : Unit → Shared → Prop}
theorem set4_0 (F : Fr h₀ L s.heap m) (N : News h₀ L s.heap news) (U : Upd D (W.listOf #[.int a ta, .int b tb, .int c tc, .int d td] n) (W.listOf #[.int (a + 1) u, .int b tb, .int c tc, .int d td] n) news news')
    (h : ∀ h', Fr h₀ L h' m → News h₀ L h' news' → Q () { s with heap := h' }) : wpAny (model prog w) A (setItem (.ref D) (.int 0 t) (.int ([a, b, c, d].getD (Int.toNat 0) 0 + 1) u)) Q E s :=
  ksa_set (vs := [.int a ta, .int b tb, .int c tc, .int d td]) (ns := [a, b, c, d]) F N U (.cons _ _ (.cons _ _ (.cons _ _ (.cons _ _ .nil)))) (by decide) (by simp) (by decide) fun h' F' N' _ _ _ => h h' F' N'
theorem set4_1 (F : Fr h₀ L s.heap m) (N : News h₀ L s.heap news) (U : Upd D (W.listOf #[.int a ta, .int b tb, .int c tc, .int d td] n) (W.listOf #[.int a ta, .int (b + 1) u, .int c tc, .int d td] n) news news')
    (h : ∀ h', Fr h₀ L h' m → News h₀ L h' news' → Q () { s with heap := h' }) : wpAny (model prog w) A (setItem (.ref D) (.int 1 t) (.int ([a, b, c, d].getD (Int.toNat 1) 0 + 1) u)) Q E s :=
  ksa_set (vs := [.int a ta, .int b tb, .int c tc, .int d td]) (ns := [a, b, c, d]) F N U (.cons _ _ (.cons _ _ (.cons _ _ (.cons _ _ .nil)))) (by decide) (by simp) (by decide) fun h' F' N' _ _ _ => h h' F' N'
theorem set4_2 (F : Fr h₀ L s.heap m) (N : News h₀ L s.heap news) (U : Upd D (W.listOf #[.int a ta, .int b tb, .int c tc, .int d td] n) (W.listOf #[.int a ta, .int b tb, .int (c + 1) u, .int d td] n) news news')
    (h : ∀ h', Fr h₀ L h' m → News h₀ L h' news' → Q () { s with heap := h' }) : wpAny (model prog w) A (setItem (.ref D) (.int 2 t) (.int ([a, b, c, d].getD (Int.toNat 2) 0 + 1) u)) Q E s :=
  ksa_set (vs := [.int a ta, .int b tb, .int c tc, .int d td]) (ns := [a, b, c, d]) F N U (.cons _ _ (.cons _ _ (.cons _ _ (.cons _ _ .nil)))) (by decide) (by simp) (by decide) fun h' F' N' _ _ _ => h h' F' N'
end
theorem linesPE7 : True := by
  w_top off
  k_with_none
  k_with "call ref" => (k_here; (with_reducible show wpAny _ _ (call (Value.ref 69) _) _ _ _); k_dflt (refine' three_L (hW := ?W) (hTab := ?tab) (U := ?U) (hB := ?B) (hF := ?F) (hX := ?X) (hN := ?N) (hT := ?T) (hC := ?C) (hk := ?k) (hdp := ?dp) (hun := ?un) (hlt := ?_) (hge := ?_); (case W => assumption); (case B => k_asm); (case F => k_asm); (case X => k_asm); (case N => k_asm); (case U => first | exact Led.tail (by first | exact it_ne (by assumption) | (intro e; cases e)) (Led.tail (by first | exact it_ne (by assumption) | (intro e; cases e)) (Led.tail (by first | exact it_ne (by assumption) | (intro e; cases e)) (Led.tail (by first | exact it_ne (by assumption) | (intro e; cases e)) (Led.tail (by first | exact it_ne (by assumption) | (intro e; cases e)) (Led.head (by assumption)))))) | exact Led.tail (by first | exact it_ne (by assumption) | (intro e; cases e)) (Led.tail (by first | exact it_ne (by assumption) | (intro e; cases e)) (Led.tail (by first | exact it_ne (by assumption) | (intro e; cases e)) (Led.head (by assumption)))) | exact Led.tail (by first | exact it_ne (by assumption) | (intro e; cases e)) (Led.tail (by first | exact it_ne (by assumption) | (intro e; cases e)) (Led.tail (by first | exact it_ne (by assumption) | (intro e; cases e)) (Led.tail (by first | exact it_ne (by assumption) | (intro e; cases e)) (Led.head (by assumption))))) | exact Led.tail (by first | exact it_ne (by assumption) | (intro e; cases e)) (Led.tail (by first | exact it_ne (by assumption) | (intro e; cases e)) (Led.tail (by first | exact it_ne (by assumption) | (intro e; cases e)) (Led.tail (by first | exact it_ne (by assumption) | (intro e; cases e)) (Led.tail (by first | exact it_ne (by assumption) | (intro e; cases e)) (Led.tail (by first | exact it_ne (by assumption) | (intro e; cases e)) (Led.head (by assumption)))))))); (case tab => assumption); (case T => k_asm); (case C => first | assumption | exact CodeHd.keeps (by assumption) (Fr.keep (by assumption))); (case k => first | exact rfl | assumption); (case dp => assumption); (case un => assumption)); (all_goals (intros; rename_i hNx9 F9 N9; (have hTab9 := TabNext.tab hNx9); (have hfu9 := TabNext.full hNx9); (try dsimp only at N9); (try dsimp only); (revert hNx9 F9 N9 hTab9 hfu9; intro _ _ _ _ _))))
  k_with "call ref" => (k_here; (with_reducible show wpAny _ _ (call (Value.ref 62) _) _ _ _); k_dflt (refine' wrapped_c (hlen := ?W) (hB := ?B) (hF := ?F) (hX := ?X) (hN := ?N) (hT := ?T) (hk := ?k) (hdp := ?dp) (hun := ?un) (hret := ?_); (case W => exact WF.len (by assumption)); (case B => k_asm); (case F => k_asm); (case X => k_asm); (case N => k_asm); (case T => k_asm); (case k => first | exact rfl | assumption); (case dp => assumption); (case un => assumption)); intro _ _ _ _ _; (try dsimp only))
  k_with "exec For Name List cons nil" => (k_here; (with_unfolding_all refine' For_invVF ?kF ?k1 ?k2 ?_; (case kF => k_asm); (case k1 => exact rfl); (case k2 => exact rfl); k_whole))
  k_with "setItem ref int" => (k_here; (with_reducible show wpAny _ _ (PySem.setItem (Value.ref _) (Value.int _ _) (Value.int _ _)) _ _ _); refine Hold.out ?_)
  k_with "exec While" => (k_here; (with_reducible show wpAny _ _ (PySem.exec (Stmt.While _ _ _ _) _) _ _ _); refine Hold.out ?_)
  k_with "pyIter ref" => ((with_reducible show wpAny _ _ (pyIter (Value.ref _)) (fun it s₂ => LoopAtV _ _ _ _ _ _ _ _ _ it s₂) _ _); refine Hold.out ?_)
  k_with "LiPost" => (dsimp only [LiPost])
  k_with "compareOp NotEq ref ref" => (refine Hold.out ?_)
  k_with "KswEnd" => (refine Hold.out ?_)
  k_with "subscriptTail Name Name ref int" => (k_here; (with_reducible show wpAny _ _ (subscriptTail _ _ (Value.ref _) (Value.int _ _)) _ _ _); (with_unfolding_all refine' item_litK ?k1 ?k2 ?k3 ?k4 ?_ ?k6; (case k1 => is_list); (case k2 => decide); (case k3 => decide); (case k4 => rfl); (case k6 => with_unfolding_all rfl); k_whole))
  k_with "subscriptTail Name BinOp ref int" => (k_here; (with_reducible show wpAny _ _ (subscriptTail _ _ (Value.ref _) (Value.int _ _)) _ _ _); (with_unfolding_all refine' item_litK ?k1 ?k2 ?k3 ?k4 ?_ ?k6; (case k1 => is_list); (case k2 => decide); (case k3 => decide); (case k4 => rfl); (case k6 => with_unfolding_all rfl); k_whole))
  k_with "callWith ref" => (k_here; k_dflt (refine' callWith_K ?k1 ?k2 ?_; (case k1 => k_asm); (case k2 => k_is); k_whole))
  k_with "eval Name" => (k_here; k_dflt (refine' nameX_L ?F ?v ?_ ?a ?b; (case F => k_asm); (case a => rfl); (case b => rfl); (case v => rfl); k_whole))
  trivial
theorem kstB_off {rest : Str → Option Value} {z : Str} : ∀ {ps : List (Str × Value)}, (∀ p ∈ ps, z ≠ p.1) → kstB rest ps z = rest z
  | [], _ => rfl
  | p :: r, h => by
    show (if z = p.1 then some p.2 else kstB rest r z) = rest z
    rw [if_neg (h p (.head _))]
    exact kstB_off fun q hq => h q (.tail _ hq)
set_option maxHeartbeats 8000000 in
theorem peeled_ok (w : World) (mean : ExcName → Option Value) (mg mb : Str → Option Value) (loose : List Str) (rest ext : List (Addr × Obj)) (ps : Array Value) (core : List Nat) (s0 s1 s2 s3 : List (Option (List Nat))) (x0 x1 x2 x3 : Tok) (kk : Nat) (ln : Addr) (hTab : StripTab ps ext) (hrest : ∀ p ∈ rest, p.1 ≠ 45)
    (hw0 : WF core s0) (hw1 : WF core s1) (hw2 : WF core s2) (hw3 : WF core s3) (n0 n1 n2 n3 : Int) (hl0 : (s0.length : Int) = n0) (hl1 : (s1.length : Int) = n1) (hl2 : (s2.length : Int) = n2) (hl3 : (s3.length : Int) = n3)
    (hi0 : (ids s0 : Int) = n0) (hi1 : (ids s1 : Int) = n1) (hi2 : (ids s2 : Int) = n2) (hi3 : (ids s3 : Int) = n3) (hn : n0 ≤ 6 ∧ n1 ≤ 6 ∧ n2 ≤ 6 ∧ n3 ≤ 6)
    (dp un : Nat) (gd : Option (List Code)) (cn : Str) (cs : Scope) (a : Addr) (ccd : Value) (cl : List (Str × Addr)) (outer : List Env) (A₀ : Around) (base h₀ : Heap) (L : Addr) (m : Str → Option Value) (s : Shared) (Q E : Value → Shared → Prop)
    (hB : Below A₀ base outer h₀) (hF : Fr h₀ L s.heap m) (hX : (hd.heap_39 w.params).In h₀)
    (hN : News h₀ L s.heap ((ln, W.listOf #[.str (rend core s0) x0, .str (rend core s1) x1, .str (rend core s2) x2, .str (rend core s3) x3] kk) :: (45, tabObj ps) :: (ext ++ rest))) (hT : Top topProg loose mean mg mb h₀) (hC : CodeHd h₀ 49 45) (hk : cs.kind = .function)
    (hdp : dp + 6 < recursionLimit) (hun : un + 100 < cLine)
    (hret : ∀ (c : PS) (cl' D : Addr) (h' : Heap) (tk' : Nat), PS.N n0 n1 n2 n3 c → (ids c.s0 < 3 ∧ ids c.s1 < 3 ∧ ids c.s2 < 3) → WF core c.s0 → WF core c.s1 → WF core c.s2 → WF core c.s3 → StripTab c.ps c.ext → c.ext ≠ [] → Fr h₀ L h' m →
      News h₀ L h' ((D, { cls := .type "tuple", data := .seq #[.ref c.l, .ref cl'] }) :: (c.l, W.listOf #[.str (rend core c.s0) c.x0, .str (rend core c.s1) c.x1, .str (rend core c.s2) c.x2, .str (rend core c.s3) c.x3] c.kl) ::
        (cl', W.listOf #[.int c.c0 c.y0, .int c.c1 c.y1, .int c.c2 c.y2, .int c.c3 c.y3] c.kc) :: (45, tabObj c.ps) :: (c.ext ++ rest)) → Q (.ref D) { s with heap := h', toks := tk' }) :
    wpAny (model PySem.Challenge.rw_wb0014_01.row.prog w) (ktrTop dp un gd cn cs L a ccd cl outer) (call (.ref 76) [.ref ln]) Q E s := by
  revert hX
  k_fill
  intro hX
  have hdpA : dp + 1 + 5 < recursionLimit := by omega
  have hunA : un + 3 + 40 < cLine := by omega
  have hdpB : dp + 1 + 4 < recursionLimit := by omega
  have hunB : un + 3 + 30 < cLine := by omega
  refine wpAny_call ?_
  k_dflt cell_enter
  k_steps
  rename_i g9 L9 h9a FG9 B9 X9 T9 tk9a cl9 h9b l19 h9c tk9b b9 h9d l1b h9e F9 N9
  unfold Hold
  refine ksw_while (PS.led cl9 core rest) PS.names (PS.Facts core cl9) [Str.ofString "nests", Str.ofString "before", Str.ofString "place", Str.ofString "less", Str.ofString "more"] (PS.P core n0 n1 n2 n3) (PS.mu core)
    ⟨ln, b9, s0, s1, s2, s3, x0, x1, x2, x3, kk, [], [], 0, 0, 0, 0, 0, tk9a, tk9a + 1, tk9a + 1 + 1, tk9a + 1 + 1 + 1, 0, ps, ext⟩ F9 (kst_newsOf N9 ?sub) ?facts ?names ?P ?turn ?pas
  case sub => intro p hp; simp only [PS.led, List.mem_cons] at hp ⊢; rcases hp with h | h | h | h; exact .inr (.inr (.inl h)); exact .inl h; exact .inr (.inl h); exact .inr (.inr (.inr h))
  case facts => exact ⟨Nat.ne_of_lt l19.1, Nat.ne_of_gt l1b.1, Nat.ne_of_lt l19.2.1, fun p hp => Nat.ne_of_lt (allLt_mem l19.2.2 p (List.mem_append_left _ hp)), hTab, hw0, hw1, hw2, hw3, .nil, fun _ h => absurd h List.not_mem_nil⟩
  case names => intro p hp; rcases List.mem_cons.mp hp with rfl | hp; rfl; rcases List.mem_cons.mp hp with rfl | hp; rfl; exact absurd hp List.not_mem_nil
  case P => refine ⟨⟨hl0, ?_, ?_, ?_, ?_, ?_, ?_, ?_, ?_, ?_, ?_, rfl⟩, .inl rfl, ?_⟩ <;> first | (dsimp only; omega) | (simp [PS.tx]; done)
  case pas => passes_own
  case turn =>
    rintro ⟨l, b, s0, s1, s2, s3, x0, x1, x2, x3, kl, bs, ys, kb, c0, c1, c2, c3, y0, y1, y2, y3, kc, ps1, ext1⟩ u h tk hfa hpp F8 N8
    have hw0' := hfa.w0
    have hw1' := hfa.w1
    have hw2' := hfa.w2
    have hw3' := hfa.w3
    have hTab' := hfa.tab
    have hne1 : l ≠ cl9 := hfa.ne1
    have hne2 : b ≠ cl9 := hfa.ne2
    have hne3 : 45 ≠ cl9 := hfa.ne3
    have hne4 : ∀ p ∈ ext1, p.1 ≠ cl9 := hfa.ne4
    have hrcl : ∀ p ∈ rest, p.1 ≠ cl9 := fun p hp => Nat.ne_of_lt (allLt_mem l19.2.2 p (List.mem_append_right _ hp))
    dsimp only [PS.names, PS.led] at F8 N8
    dsimp only at hw0' hw1' hw2' hw3' hTab'
    k_steps
    unfold Hold
    refine sl_ne (a := b) (b := l) (ns := ys) (ms := [rend core s0, rend core s1, rend core s2, rend core s3]) ⟨_, N8.get (.tail _ (.head _)), rfl, _, rfl⟩ ⟨_, N8.get (.head _), rfl, _, rfl⟩ hfa.bs (.cons _ _ (.cons _ _ (.cons _ _ (.cons _ _ .nil)))) hfa.ok ?ok (by show un + 3 + 64 < cLine; omega) ?_
    case ok => intro x hx; simp only [List.mem_cons, List.not_mem_nil, or_false] at hx; rcases hx with rfl | rfl | rfl | rfl; exact WF.ok hw0'; exact WF.ok hw1'; exact WF.ok hw2'; exact WF.ok hw3'
    by_cases hys : ys = [rend core s0, rend core s1, rend core s2, rend core s3]
    · rw [decide_eq_true hys]
      k_steps
      rename Fr h₀ _ _ _ => F6
      rename News h₀ _ _ _ => N6
      refine hret ⟨l, b, s0, s1, s2, s3, x0, x1, x2, x3, kl, bs, ys, kb, c0, c1, c2, c3, y0, y1, y2, y3, kc, ps1, ext1⟩ cl9 _ _ _ hpp.toN (hpp.e hys) hfa.w0 hfa.w1 hfa.w2 hfa.w3 hfa.tab (by rcases hpp.nx with e | e; (exact absurd (e.symm.trans hys) (by simp)); exact e) F6 (fun p hp => N6 p ?_)
      rcases List.mem_cons.mp hp with e | hp
      · exact e ▸ .head _
      rcases List.mem_cons.mp hp with e | hp
      · exact e ▸ .tail _ (.head _)
      · exact .tail _ (.tail _ (.tail _ hp))
    · rw [decide_eq_false hys]
      k_steps
      unfold Hold
      rename Fr _ _ _ _ => F2
      rename News _ _ _ _ => N2
      rename_i l2 h2 l12
      have N3 : News g9 L9 h2 ((l2, W.listOf #[Value.int 2 (tk + 1), Value.int 1 (tk + 1 + 1), Value.int 0 (tk + 1 + 1 + 1)] 0) :: PS.led cl9 core rest ⟨l, l, s0, s1, s2, s3, x0, x1, x2, x3, kl, [.str (rend core s0) x0, .str (rend core s1) x1, .str (rend core s2) x2, .str (rend core s3) x3], [rend core s0, rend core s1, rend core s2, rend core s3], kl, c0, c1, c2, c3, y0, y1, y2, y3, kc, ps1, ext1⟩) :=
        kst_newsOf N2 fun p hp => by
          simp only [PS.led, List.mem_cons] at hp ⊢
          rcases hp with e | e | e | e | e | e
          exact .inl e; exact .inr (.inl e); exact .inr (.inl e); exact .inr (.inr (.inr (.inl e))); exact .inr (.inr (.inr (.inr (.inl e)))); exact .inr (.inr (.inr (.inr (.inr e))))
      with_unfolding_all refine iter_listUnr (vs := [_, _, _]) (by rfl) F2 N3 (List.Mem.head _) (by rfl) (by rfl) ?_
      intro I hI
      have hI0 : l2 ≠ I := Nat.ne_of_lt (hI _ (.head _))
      have hI1 : l ≠ I := Nat.ne_of_lt (hI _ (.tail _ (.head _)))
      have hI2 : cl9 ≠ I := Nat.ne_of_lt (hI _ (.tail _ (.tail _ (.tail _ (.head _)))))
      have hI3 : 45 ≠ I := Nat.ne_of_lt (hI _ (.tail _ (.tail _ (.tail _ (.tail _ (.head _))))))
      have hI4 : ∀ p ∈ ext1, p.1 ≠ I := fun p hp => Nat.ne_of_lt (hI _ (.tail _ (.tail _ (.tail _ (.tail _ (.tail _ (List.mem_append_left _ hp)))))))
      have hI5 : ∀ p ∈ rest, p.1 ≠ I := fun p hp => Nat.ne_of_lt (hI _ (.tail _ (.tail _ (.tail _ (.tail _ (.tail _ (List.mem_append_right _ hp)))))))
      have hI6 : I ≠ cl9 := Ne.symm hI2
      have hI7 : l2 ≠ cl9 := Nat.ne_of_gt l12.2.2.1
      refine lr_inv (PS.led cl9 core rest) PS.names [Str.ofString "nests", Str.ofString "before", Str.ofString "place", Str.ofString "less", Str.ofString "more"] _ (PS.J core cl9 I n0 n1 n2 n3 [rend core s0, rend core s1, rend core s2, rend core s3] l s0 s1 s2 s3) [_, _, _] ?off ?turn2 ?fin [_, _, _] 0 ⟨l, l, s0, s1, s2, s3, x0, x1, x2, x3, kl, [.str (rend core s0) x0, .str (rend core s1) x1, .str (rend core s2) x2, .str (rend core s3) x3], [rend core s0, rend core s1, rend core s2, rend core s3], kl, c0, c1, c2, c3, y0, y1, y2, y3, kc, ps1, ext1⟩ _ rfl (Nat.zero_le _) ?J0 ?names0 (fun _ _ _ => rfl)
      case off =>
        intro i c hJ p hp
        simp only [PS.led, List.mem_cons, List.mem_append] at hp
        rcases hp with rfl | rfl | rfl | rfl | rfl | e | e
        exact hI0; exact hJ.o1; exact hJ.hb ▸ hI1; exact hI2; exact hI3; exact hJ.o4 p e; exact hI5 p e
      case J0 =>
        refine ⟨⟨hne1, hne1, hne3, hne4, hTab', hw0', hw1', hw2', hw3', .cons _ _ (.cons _ _ (.cons _ _ (.cons _ _ .nil))), ?_⟩, ⟨hpp.l0, hpp.l1, hpp.l2, hpp.l3, hpp.i0, hpp.i1, hpp.i2, hpp.i3, hpp.z0, hpp.z1, hpp.z2, hpp.z3⟩, hI1, hI4, rfl, rfl, fun h => absurd h (by decide), .inl ⟨rfl, rfl, rfl, rfl, fun h => absurd h (by decide), fun h => absurd h (by decide), fun h => absurd h (by decide)⟩⟩
        intro x hx; simp only [List.mem_cons, List.not_mem_nil, or_false] at hx; rcases hx with rfl | rfl | rfl | rfl; exact WF.ok hw0'; exact WF.ok hw1'; exact WF.ok hw2'; exact WF.ok hw3'
      case names0 => intro p hp; rcases List.mem_cons.mp hp with rfl | hp; rfl; rcases List.mem_cons.mp hp with rfl | hp; rfl; exact absurd hp List.not_mem_nil
      case fin =>
        intro c u h tk hJ F N
        k_steps
        unfold Hold
        refine ksw_end c F N (fun p hp => .tail _ hp) hJ.toFacts (by intro p hp; rcases List.mem_cons.mp hp with rfl | hp; rfl; rcases List.mem_cons.mp hp with rfl | hp; rfl; exact absurd hp List.not_mem_nil) ?hr9 hJ.toP (hJ.mu (by exact hys) rfl rfl rfl rfl)
        case hr9 => intro z h2 h3; refine (kstB_off h2).trans ?_; (simp only [List.contains_cons, List.contains_nil, Bool.or_false, Bool.or_eq_false_iff, beq_eq_false_iff_ne, ne_eq] at h3); (simp [kstB, h3])
      case turn2 =>
        rintro i v ⟨l, b, s0, s1, s2, s3, x0, x1, x2, x3, kl, bs, ys, kb, c0, c1, c2, c3, y0, y1, y2, y3, kc, ps1, ext1⟩ u it h tk hv hJ hit F8 N8
        have hw0' := hJ.w0
        have hw1' := hJ.w1
        have hw2' := hJ.w2
        have hw3' := hJ.w3
        have hTab' := hJ.tab
        have hne1 : l ≠ cl9 := hJ.ne1
        have hne2 : b ≠ cl9 := hJ.ne2
        have hne4 : ∀ p ∈ ext1, p.1 ≠ cl9 := hJ.ne4
        dsimp only [PS.names, PS.led] at F8 N8
        dsimp only at hw0' hw1' hw2' hw3' hTab'
        rcases i with _ | _ | _ | i
        · cases hv
          k_steps
          · show LiEnd _ _ _ _ _ _ _ _ _ _ _ _
            rename Fr _ _ _ _ => F6
            rename News _ _ _ _ => N6
            rename TabNext _ _ _ _ _ => hNx6
            refine li_end ⟨l, b, s0, s1, s2, s3, x0, x1, x2, x3, kl, bs, ys, kb, c0, c1, c2, c3, y0, y1, y2, y3, kc, _, _⟩ F6 N6 (List.forall_mem_cons.mpr ⟨.head _, List.forall_mem_cons.mpr ⟨.tail _ (.head _), List.forall_mem_cons.mpr ⟨.tail _ (.tail _ (.head _)), List.forall_mem_cons.mpr ⟨.tail _ (.tail _ (.tail _ (.head _))), List.forall_mem_cons.mpr ⟨.tail _ (.tail _ (.tail _ (.tail _ (.head _)))), List.forall_mem_cons.mpr ⟨.tail _ (.tail _ (.tail _ (.tail _ (.tail _ (.head _))))), fun p hp => .tail _ (.tail _ (.tail _ (.tail _ (.tail _ (.tail _ hp)))))⟩⟩⟩⟩⟩⟩) (by intro p hp; rcases List.mem_cons.mp hp with rfl | hp; rfl; rcases List.mem_cons.mp hp with rfl | hp; rfl; exact absurd hp List.not_mem_nil) ?hr0 (hJ.same hNx6 ⟨_, .tail _ (.tail _ (.tail _ (.tail _ (.head _))))⟩ ⟨_, .head _⟩ (.inl ⟨rfl, by assumption⟩))
            case hr0 => (intro z h2 h3; (simp only [List.contains_cons, List.contains_nil, Bool.or_false, Bool.or_eq_false_iff, beq_eq_false_iff_ne, ne_eq] at h3); (simp [kstB, h3]))
          · unfold Hold
            k_dflt (refine' set4_2 (F := ?F) (N := ?N) (U := ?U) (h := ?_); (case F => k_asm); (case N => k_asm); (case U => exact Upd.tail (by assumption) (Upd.tail (by assumption) (Upd.tail (by assumption) (Upd.tail (by assumption) (Upd.head (List.forall_mem_cons.mpr ⟨by assumption, tail_cl (by assumption) (by assumption) (by assumption) ⟨_, .tail _ (.tail _ (.tail _ (.tail _ (.head _))))⟩⟩)))))))
            intro h5 F5 N5
            dsimp only at N5
            k_steps
            rename Fr _ _ _ _ => F6
            rename News _ _ _ _ => N6
            rename TabNext _ _ _ _ _ => hNx6
            rename_i D6 h6 l16 h7
            refine li_end ⟨D6, b, s0, s1, stripL (stripL (stripL s2)), s3 ++ [some (hexS ([c0, c1, c2 + 1, c3].getD (Int.toNat 2) 0))], x0, x1, _, _, _, bs, ys, kb, c0, c1, c2 + 1, c3, y0, y1, _, y3, kc, _, _⟩ F6 N6 (List.forall_mem_cons.mpr ⟨.tail _ (.tail _ (.tail _ (.tail _ (.tail _ (.head _))))), List.forall_mem_cons.mpr ⟨.tail _ (.tail _ (.tail _ (.tail _ (.tail _ (.tail _ (.head _)))))), List.forall_mem_cons.mpr ⟨.head _, List.forall_mem_cons.mpr ⟨.tail _ (.tail _ (.tail _ (.tail _ (.tail _ (.tail _ (.tail _ (.tail _ (.head _)))))))), List.forall_mem_cons.mpr ⟨.tail _ (.tail _ (.tail _ (.tail _ (.tail _ (.tail _ (.tail _ (.tail _ (.tail _ (.head _))))))))), List.forall_mem_cons.mpr ⟨.tail _ (.tail _ (.tail _ (.tail _ (.tail _ (.tail _ (.tail _ (.tail _ (.tail _ (.tail _ (.head _)))))))))), fun p hp => .tail _ (.tail _ (.tail _ (.tail _ (.tail _ (.tail _ (.tail _ (.tail _ (.tail _ (.tail _ (.tail _ hp))))))))))⟩⟩⟩⟩⟩⟩) (by intro p hp; rcases List.mem_cons.mp hp with rfl | hp; rfl; rcases List.mem_cons.mp hp with rfl | hp; rfl; exact absurd hp List.not_mem_nil) ?hr0 (hJ.two hn (by assumption) hNx6 ⟨_, .tail _ (.tail _ (.tail _ (.tail _ (.head _))))⟩ ⟨_, .head _⟩ ?a0 ?b0)
            case hr0 => (intro z h2 h3; (simp only [List.contains_cons, List.contains_nil, Bool.or_false, Bool.or_eq_false_iff, beq_eq_false_iff_ne, ne_eq] at h3); (simp [kstB, h3]))
            case a0 => exact l16.2.2.2.2.2.2.2.2.1
            case b0 => exact l16.2.2.2.2.1
        · cases hv
          k_steps
          · show LiEnd _ _ _ _ _ _ _ _ _ _ _ _
            rename Fr _ _ _ _ => F6
            rename News _ _ _ _ => N6
            rename TabNext _ _ _ _ _ => hNx6
            refine li_end ⟨l, b, s0, s1, s2, s3, x0, x1, x2, x3, kl, bs, ys, kb, c0, c1, c2, c3, y0, y1, y2, y3, kc, _, _⟩ F6 N6 (List.forall_mem_cons.mpr ⟨.head _, List.forall_mem_cons.mpr ⟨.tail _ (.head _), List.forall_mem_cons.mpr ⟨.tail _ (.tail _ (.head _)), List.forall_mem_cons.mpr ⟨.tail _ (.tail _ (.tail _ (.head _))), List.forall_mem_cons.mpr ⟨.tail _ (.tail _ (.tail _ (.tail _ (.head _)))), List.forall_mem_cons.mpr ⟨.tail _ (.tail _ (.tail _ (.tail _ (.tail _ (.head _))))), fun p hp => .tail _ (.tail _ (.tail _ (.tail _ (.tail _ (.tail _ hp)))))⟩⟩⟩⟩⟩⟩) (by intro p hp; rcases List.mem_cons.mp hp with rfl | hp; rfl; rcases List.mem_cons.mp hp with rfl | hp; rfl; exact absurd hp List.not_mem_nil) ?hr1 (hJ.same hNx6 ⟨_, .tail _ (.tail _ (.tail _ (.tail _ (.head _))))⟩ ⟨_, .head _⟩ (.inr (.inl ⟨rfl, by assumption⟩)))
            case hr1 => (intro z h2 h3; (simp only [List.contains_cons, List.contains_nil, Bool.or_false, Bool.or_eq_false_iff, beq_eq_false_iff_ne, ne_eq] at h3); (simp [kstB, h3]))
          · unfold Hold
            k_dflt (refine' set4_1 (F := ?F) (N := ?N) (U := ?U) (h := ?_); (case F => k_asm); (case N => k_asm); (case U => exact Upd.tail (by assumption) (Upd.tail (by assumption) (Upd.tail (by assumption) (Upd.tail (by assumption) (Upd.head (List.forall_mem_cons.mpr ⟨by assumption, tail_cl (by assumption) (by assumption) (by assumption) ⟨_, .tail _ (.tail _ (.tail _ (.tail _ (.head _))))⟩⟩)))))))
            intro h5 F5 N5
            dsimp only at N5
            k_steps
            rename Fr _ _ _ _ => F6
            rename News _ _ _ _ => N6
            rename TabNext _ _ _ _ _ => hNx6
            rename_i D6 h6 l16 h7
            refine li_end ⟨D6, b, s0, stripL (stripL (stripL s1)), s2 ++ [some (hexS ([c0, c1 + 1, c2, c3].getD (Int.toNat 1) 0))], s3, x0, _, _, x3, _, bs, ys, kb, c0, c1 + 1, c2, c3, y0, _, y2, y3, kc, _, _⟩ F6 N6 (List.forall_mem_cons.mpr ⟨.tail _ (.tail _ (.tail _ (.tail _ (.tail _ (.head _))))), List.forall_mem_cons.mpr ⟨.tail _ (.tail _ (.tail _ (.tail _ (.tail _ (.tail _ (.head _)))))), List.forall_mem_cons.mpr ⟨.head _, List.forall_mem_cons.mpr ⟨.tail _ (.tail _ (.tail _ (.tail _ (.tail _ (.tail _ (.tail _ (.tail _ (.head _)))))))), List.forall_mem_cons.mpr ⟨.tail _ (.tail _ (.tail _ (.tail _ (.tail _ (.tail _ (.tail _ (.tail _ (.tail _ (.head _))))))))), List.forall_mem_cons.mpr ⟨.tail _ (.tail _ (.tail _ (.tail _ (.tail _ (.tail _ (.tail _ (.tail _ (.tail _ (.tail _ (.head _)))))))))), fun p hp => .tail _ (.tail _ (.tail _ (.tail _ (.tail _ (.tail _ (.tail _ (.tail _ (.tail _ (.tail _ (.tail _ hp))))))))))⟩⟩⟩⟩⟩⟩) (by intro p hp; rcases List.mem_cons.mp hp with rfl | hp; rfl; rcases List.mem_cons.mp hp with rfl | hp; rfl; exact absurd hp List.not_mem_nil) ?hr1 (hJ.one hn (by assumption) hNx6 ⟨_, .tail _ (.tail _ (.tail _ (.tail _ (.head _))))⟩ ⟨_, .head _⟩ ?a1 ?b1)
            case hr1 => (intro z h2 h3; (simp only [List.contains_cons, List.contains_nil, Bool.or_false, Bool.or_eq_false_iff, beq_eq_false_iff_ne, ne_eq] at h3); (simp [kstB, h3]))
            case a1 => exact l16.2.2.2.2.2.2.2.2.1
            case b1 => exact l16.2.2.2.2.1
        · cases hv
          k_steps
          · show LiEnd _ _ _ _ _ _ _ _ _ _ _ _
            rename Fr _ _ _ _ => F6
            rename News _ _ _ _ => N6
            rename TabNext _ _ _ _ _ => hNx6
            refine li_end ⟨l, b, s0, s1, s2, s3, x0, x1, x2, x3, kl, bs, ys, kb, c0, c1, c2, c3, y0, y1, y2, y3, kc, _, _⟩ F6 N6 (List.forall_mem_cons.mpr ⟨.head _, List.forall_mem_cons.mpr ⟨.tail _ (.head _), List.forall_mem_cons.mpr ⟨.tail _ (.tail _ (.head _)), List.forall_mem_cons.mpr ⟨.tail _ (.tail _ (.tail _ (.head _))), List.forall_mem_cons.mpr ⟨.tail _ (.tail _ (.tail _ (.tail _ (.head _)))), List.forall_mem_cons.mpr ⟨.tail _ (.tail _ (.tail _ (.tail _ (.tail _ (.head _))))), fun p hp => .tail _ (.tail _ (.tail _ (.tail _ (.tail _ (.tail _ hp)))))⟩⟩⟩⟩⟩⟩) (by intro p hp; rcases List.mem_cons.mp hp with rfl | hp; rfl; rcases List.mem_cons.mp hp with rfl | hp; rfl; exact absurd hp List.not_mem_nil) ?hr2 (hJ.same hNx6 ⟨_, .tail _ (.tail _ (.tail _ (.tail _ (.head _))))⟩ ⟨_, .head _⟩ (.inr (.inr ⟨rfl, by assumption⟩)))
            case hr2 => (intro z h2 h3; (simp only [List.contains_cons, List.contains_nil, Bool.or_false, Bool.or_eq_false_iff, beq_eq_false_iff_ne, ne_eq] at h3); (simp [kstB, h3]))
          · unfold Hold
            k_dflt (refine' set4_0 (F := ?F) (N := ?N) (U := ?U) (h := ?_); (case F => k_asm); (case N => k_asm); (case U => exact Upd.tail (by assumption) (Upd.tail (by assumption) (Upd.tail (by assumption) (Upd.tail (by assumption) (Upd.head (List.forall_mem_cons.mpr ⟨by assumption, tail_cl (by assumption) (by assumption) (by assumption) ⟨_, .tail _ (.tail _ (.tail _ (.tail _ (.head _))))⟩⟩)))))))
            intro h5 F5 N5
            dsimp only at N5
            k_steps
            rename Fr _ _ _ _ => F6
            rename News _ _ _ _ => N6
            rename TabNext _ _ _ _ _ => hNx6
            rename_i D6 h6 l16 h7
            refine li_end ⟨D6, b, stripL (stripL (stripL s0)), s1 ++ [some (hexS ([c0 + 1, c1, c2, c3].getD (Int.toNat 0) 0))], s2, s3, _, _, x2, x3, _, bs, ys, kb, c0 + 1, c1, c2, c3, _, y1, y2, y3, kc, _, _⟩ F6 N6 (List.forall_mem_cons.mpr ⟨.tail _ (.tail _ (.tail _ (.tail _ (.tail _ (.head _))))), List.forall_mem_cons.mpr ⟨.tail _ (.tail _ (.tail _ (.tail _ (.tail _ (.tail _ (.head _)))))), List.forall_mem_cons.mpr ⟨.head _, List.forall_mem_cons.mpr ⟨.tail _ (.tail _ (.tail _ (.tail _ (.tail _ (.tail _ (.tail _ (.tail _ (.head _)))))))), List.forall_mem_cons.mpr ⟨.tail _ (.tail _ (.tail _ (.tail _ (.tail _ (.tail _ (.tail _ (.tail _ (.tail _ (.head _))))))))), List.forall_mem_cons.mpr ⟨.tail _ (.tail _ (.tail _ (.tail _ (.tail _ (.tail _ (.tail _ (.tail _ (.tail _ (.tail _ (.head _)))))))))), fun p hp => .tail _ (.tail _ (.tail _ (.tail _ (.tail _ (.tail _ (.tail _ (.tail _ (.tail _ (.tail _ (.tail _ hp))))))))))⟩⟩⟩⟩⟩⟩) (by intro p hp; rcases List.mem_cons.mp hp with rfl | hp; rfl; rcases List.mem_cons.mp hp with rfl | hp; rfl; exact absurd hp List.not_mem_nil) ?hr2 (hJ.zero hn (by assumption) hNx6 ⟨_, .tail _ (.tail _ (.tail _ (.tail _ (.head _))))⟩ ⟨_, .head _⟩ ?a2 ?b2)
            case hr2 => (intro z h2 h3; (simp only [List.contains_cons, List.contains_nil, Bool.or_false, Bool.or_eq_false_iff, beq_eq_false_iff_ne, ne_eq] at h3); (simp [kstB, h3]))
            case a2 => exact l16.2.2.2.2.2.2.2.2.1
            case b2 => exact l16.2.2.2.2.1
        · cases hv
end
-- part SP
section
open PySem PySem.Calls PyProof.Rows PySem.W
theorem join_inj (c : Nat) : ∀ xs ys : List Str, xs ≠ [] → ys ≠ [] → (∀ p ∈ xs, c ∉ p.cps.toList) → (∀ p ∈ ys, c ∉ p.cps.toList) → (Str.join ⟨#[c]⟩ xs).cps.toList = (Str.join ⟨#[c]⟩ ys).cps.toList → xs = ys
  | [], _, h, _, _, _, _ => absurd rfl h
  | _, [], _, h, _, _, _ => absurd rfl h
  | [p], [q], _, _, _, _, e => by
    have e' : p.cps.toList = q.cps.toList := e
    rw [Str.ext' (Array.toList_inj.mp e')]
  | [p], q :: q2 :: r, _, _, h1, _, e => by
    exfalso
    have e' : p.cps.toList = (q ++ ⟨#[c]⟩ ++ Str.join ⟨#[c]⟩ (q2 :: r)).cps.toList := e
    refine h1 p (.head _) ?_
    rw [e']
    simp [Str.cps_append]
  | p :: p2 :: r, [q], _, _, _, h2, e => by
    exfalso
    have e' : (p ++ ⟨#[c]⟩ ++ Str.join ⟨#[c]⟩ (p2 :: r)).cps.toList = q.cps.toList := e
    refine h2 q (.head _) ?_
    rw [← e']
    simp [Str.cps_append]
  | p :: p2 :: r, q :: q2 :: r2, _, _, h1, h2, e => by
    have e' : (p ++ ⟨#[c]⟩ ++ Str.join ⟨#[c]⟩ (p2 :: r)).cps.toList = (q ++ ⟨#[c]⟩ ++ Str.join ⟨#[c]⟩ (q2 :: r2)).cps.toList := e
    simp only [Str.cps_append, Array.toList_append, List.append_assoc] at e'
    have a1 : c ∉ p.cps.toList := h1 p (.head _)
    have a2 : c ∉ q.cps.toList := h2 q (.head _)
    have key : ∀ (a b : List Nat) (x y : List Nat), c ∉ a → c ∉ b → a ++ ([c] ++ x) = b ++ ([c] ++ y) → a = b ∧ x = y := by
      intro a
      induction a with
      | nil =>
        intro b x y _ hb h
        cases b with
        | nil => exact ⟨rfl, (List.cons.inj h).2⟩
        | cons d b => exact absurd (.head _) ((List.cons.inj h).1 ▸ hb)
      | cons d a ih =>
        intro b x y ha hb h
        cases b with
        | nil => exact absurd (.head _) ((List.cons.inj h).1 ▸ ha)
        | cons d' b =>
          obtain ⟨e1, e2⟩ := List.cons.inj h
          obtain ⟨e3, e4⟩ := ih b x y (fun m => ha (.tail _ m)) (fun m => hb (.tail _ m)) e2
          exact ⟨by rw [e1, e3], e4⟩
    obtain ⟨e1, e2⟩ := key _ _ _ _ a1 a2 e'
    have := join_inj c (p2 :: r) (q2 :: r2) (List.cons_ne_nil _ _) (List.cons_ne_nil _ _) (fun x hx => h1 x (.tail _ hx)) (fun x hx => h2 x (.tail _ hx)) e2
    rw [Str.ext' (Array.toList_inj.mp e1), this]
abbrev fld (n : Int) : Str := Str.ofString (toString n)
abbrev rel (xs : List Str) : Str := Txt.join (Str.ofString ".") xs
theorem dot : Str.ofString "." = ⟨#[46]⟩ := by decide +kernel
theorem tjoin (x : Str) (l : List Str) : Txt.join x l = Str.join x l := StrLaws.glued_eq_join x l
theorem split_rel (p q : Str) (r : List Str) (h : ∀ x ∈ p :: q :: r, 46 ∉ x.cps.toList) : Txt.split (rel (p :: q :: r)) (Str.ofString ".") = p :: q :: r := by
  unfold rel
  rw [dot, tjoin]
  have e := StrLaws.join_split (Str.join ⟨#[46]⟩ (p :: q :: r)) ⟨#[46]⟩
  refine join_inj 46 _ _ ?_ (List.cons_ne_nil _ _) (fun x hx => StrLaws.split_free _ _ _ hx) h (congrArg (fun y : Str => y.cps.toList) e)
  intro h0
  rw [h0] at e
  have : (p ++ ⟨#[46]⟩ ++ Str.join ⟨#[46]⟩ (q :: r)).cps.toList = [] := (congrArg (fun y : Str => y.cps.toList) e).symm
  simp [Str.cps_append] at this
theorem fld_dec : ∀ n, n < 100 → 10 ≤ n → (fld ((n : Nat) : Int)).cps.toList = [48 + n / 10, 48 + n % 10] := by decide +kernel
theorem fld_nat {n : Int} (h0 : 10 ≤ n) (h1 : n < 100) : (fld n).cps.toList = [48 + n.toNat / 10, 48 + n.toNat % 10] := by
  have := fld_dec n.toNat (by omega) (by omega)
  rwa [Int.toNat_of_nonneg (by omega)] at this
theorem fld_free {n : Int} (h0 : 10 ≤ n) (h1 : n < 100) : 46 ∉ (fld n).cps.toList := by
  rw [fld_nat h0 h1]; intro h; simp at h; omega
theorem fld_len {n : Int} (h0 : 10 ≤ n) (h1 : n < 100) : (fld n).length = 2 := by
  show (fld n).cps.size = 2
  rw [← Array.length_toList, fld_nat h0 h1]; rfl
theorem rel_lt {a : Int} {q : Str} {r : List Str} (h0 : 40 ≤ a) (h1 : a < 60) : ((rel (fld a :: q :: r)).cps.toList < (Str.ofString "5").cps.toList) ↔ a < 50 := by
  have e5 : (Str.ofString "5").cps.toList = [53] := by decide +kernel
  have e1 : (rel (fld a :: q :: r)).cps.toList = (48 + a.toNat / 10) :: (48 + a.toNat % 10) :: 46 :: (Str.join ⟨#[46]⟩ (q :: r)).cps.toList := by
    unfold rel
    rw [dot, tjoin]
    show (fld a ++ ⟨#[46]⟩ ++ Str.join ⟨#[46]⟩ (q :: r)).cps.toList = _
    simp only [Str.cps_append, Array.toList_append, fld_nat (by omega : 10 ≤ a) (by omega : a < 100)]
    rfl
  rw [e5, e1, List.cons_lt_cons_iff]
  constructor
  · rintro (h | ⟨h, h2⟩)
    · omega
    · exact absurd h2 (List.not_lt_nil _)
  · intro h; exact .inl (by omega)
theorem rel4_len {a b c d : Int} (ha : 10 ≤ a ∧ a < 100) (hb : 10 ≤ b ∧ b < 100) (hc : 10 ≤ c ∧ c < 100) (hd : 10 ≤ d ∧ d < 100) : (rel [fld a, fld b, fld c, fld d]).length = 11 := by
  unfold rel
  rw [dot, tjoin]
  show (fld a ++ ⟨#[46]⟩ ++ (fld b ++ ⟨#[46]⟩ ++ (fld c ++ ⟨#[46]⟩ ++ fld d))).cps.size = 11
  have s1 := fld_len ha.1 ha.2
  have s2 := fld_len hb.1 hb.2
  have s3 := fld_len hc.1 hc.2
  have s4 := fld_len hd.1 hd.2
  simp only [Str.length] at s1 s2 s3 s4
  simp only [Str.cps_append, Array.size_append, s1, s2, s3, s4]
  rfl
end
-- part SA
section
open PySem PySem.Calls PyProof.Rows PySem.W
theorem allLt_all {d : Addr} : ∀ {l : List (Addr × Obj)}, AllLt d l → ∀ p ∈ l, p.1 < d
  | [], _, p, hp => absurd hp List.not_mem_nil
  | q :: r, h, p, hp => by
    rcases List.mem_cons.mp hp with rfl | hp
    · exact h.1
    · exact allLt_all h.2 p hp
structure F4 (f0 f1 f2 f3 : Int) : Prop where
  a : 10 ≤ f0 ∧ f0 < 100
  b : 10 ≤ f1 ∧ f1 < 100
  c : 10 ≤ f2 ∧ f2 < 100
  d : 10 ≤ f3 ∧ f3 < 100
theorem F4.split {f0 f1 f2 f3 : Int} (h : F4 f0 f1 f2 f3) : Txt.split (rel [fld f0, fld f1, fld f2, fld f3]) (Str.ofString ".") = [fld f0, fld f1, fld f2, fld f3] := split_rel _ _ _ (by
    intro x hx
    simp only [List.mem_cons, List.not_mem_nil, or_false] at hx
    rcases hx with rfl | rfl | rfl | rfl
    exact fld_free h.a.1 h.a.2; exact fld_free h.b.1 h.b.2; exact fld_free h.c.1 h.c.2; exact fld_free h.d.1 h.d.2)
theorem F4.len {f0 f1 f2 f3 : Int} (h : F4 f0 f1 f2 f3) : (rel [fld f0, fld f1, fld f2, fld f3]).length = 11 := rel4_len h.a h.b h.c h.d
section
variable {prog : Program} {w : World} {A : Around} {E : Value → Shared → Prop} {s : Shared} {h₀ : Heap} {L : Addr} {m : Str → Option Value} {news : List (Addr × Obj)} {f0 f1 f2 f3 : Int} {t u : Tok} {Q : Value → Shared → Prop}
theorem split4 (hf : F4 f0 f1 f2 f3) (hF : Fr h₀ L s.heap m) (hN : News h₀ L s.heap news)
    (h : ∀ (D : Addr) (h' : Heap) (k : Nat) (b0 b1 b2 b3 : Tok), Fr h₀ L h' m → News h₀ L h' ((D, W.listOf #[.str (fld f0) b0, .str (fld f1) b1, .str (fld f2) b2, .str (fld f3) b3] 0) :: news) → (∀ p ∈ news, p.1 < D) → Q (.ref D) { s with heap := h', toks := k }) :
    wpAny (model prog w) A (call (.builtin "str.split") [.str (rel [fld f0, fld f1, fld f2, fld f3]) t, .str (Str.ofString ".") u]) Q E s := by
  refine KSpl.split1 hF hN (by decide +kernel) (fun D l h' k hl _ F N l1 => ?_) (by rw [hf.len]; decide)
  rw [hf.split] at hl
  obtain ⟨⟨a0, b0⟩, l, rfl⟩ : ∃ p r, l = p :: r := by cases l with | nil => cases hl | cons p r => exact ⟨p, r, rfl⟩
  obtain ⟨⟨a1, b1⟩, l, rfl⟩ : ∃ p r, l = p :: r := by cases l with | nil => cases hl | cons p r => exact ⟨p, r, rfl⟩
  obtain ⟨⟨a2, b2⟩, l, rfl⟩ : ∃ p r, l = p :: r := by cases l with | nil => cases hl | cons p r => exact ⟨p, r, rfl⟩
  obtain ⟨⟨a3, b3⟩, l, rfl⟩ : ∃ p r, l = p :: r := by cases l with | nil => cases hl | cons p r => exact ⟨p, r, rfl⟩
  cases l with
  | cons p r => cases hl
  | nil =>
    simp only [List.map_cons, List.map_nil, List.cons.injEq, and_true] at hl
    obtain ⟨rfl, rfl, rfl, rfl⟩ := hl
    exact h D h' k b0 b1 b2 b3 F N l1
theorem join4 {D : Addr} {b0 b1 b2 b3 : Tok} {n : Nat} (hf : F4 f0 f1 f2 f3) (hN : News h₀ L s.heap news) (hm : (D, W.listOf #[.str (fld f0) b0, .str (fld f1) b1, .str (fld f2) b2, .str (fld f3) b3] n) ∈ news)
    (h : ∀ (t' : Tok) (k : Nat), Q (.str (rel [fld f0, fld f1, fld f2, fld f3]) t') { s with toks := k }) :
    wpAny (model prog w) A (call (.builtin "str.join") [.str (Str.ofString ".") t, .ref D]) Q E s := by
  refine join_list (items := #[.str (fld f0) b0, .str (fld f1) b1, .str (fld f2) b2, .str (fld f3) b3]) ⟨_, hN.get hm, rfl, n, rfl⟩ (.cons _ _ (.cons _ _ (.cons _ _ (.cons _ _ .nil)))) ?_ h
  simp only [List.map_cons, List.map_nil, List.sum_cons, List.sum_nil, fld_len hf.a.1 hf.a.2, fld_len hf.b.1 hf.b.2, fld_len hf.c.1 hf.c.2, fld_len hf.d.1 hf.d.2, List.length_cons, List.length_nil]
  rw [dot]; decide
end
theorem linesSA : True := by
  w_top off
  k_with_none
  k_with "eval Name" => (k_here; k_dflt (refine' nameX_L ?F ?v ?_ ?a ?b; (case F => k_asm); (case a => rfl); (case b => rfl); (case v => rfl); k_whole))
  k_with "call builtin:str.join" => (k_here; (with_reducible show wpAny _ _ (call (Value.builtin "str.join") [Value.str (Str.ofString ".") _, Value.ref _]) _ _ _); k_dflt (refine' join4 (hf := ?f) (hN := ?N) (hm := ?m) (h := ?_); (case N => k_asm); (case m => k_mem); (case f => assumption)); intro _ _)
  k_with "call builtin:str.split" => (k_here; (with_reducible show wpAny _ _ (call (Value.builtin "str.split") [Value.str (rel _) _, Value.str _ _]) _ _ _); k_dflt (refine' split4 (hf := ?f) (hF := ?F) (hN := ?N) (h := ?_); (case f => assumption); (case F => k_asm); (case N => k_asm)); intro _ _ _ _ _ _ _ _ _ l1; (try k_lt l1); (revert l1; intro _))
  trivial
set_option maxHeartbeats 8000000 in
theorem sysal_ok (w : World) (mean : ExcName → Option Value) (mg mb : Str → Option Value) (loose : List Str) (news : List (Addr × Obj)) (f0 f1 f2 f3 : Int) (vs : Str) (t1 t2 t3 : Tok)
    (h0 : 47 ≤ f0 ∧ f0 < 60) (h1 : 47 ≤ f1 ∧ f1 < 60) (h2 : 47 ≤ f2 ∧ f2 < 60) (h3 : 47 ≤ f3 ∧ f3 < 60)
    (dp un : Nat) (gd : Option (List Code)) (cn : Str) (cs : Scope) (a : Addr) (ccd : Value) (cl : List (Str × Addr)) (outer : List Env) (A₀ : Around) (base h₀ : Heap) (L : Addr) (m : Str → Option Value) (s : Shared) (Q E : Value → Shared → Prop)
    (hB : Below A₀ base outer h₀) (hF : Fr h₀ L s.heap m) (hX : (hd.heap_39 w.params).In h₀)
    (hN : News h₀ L s.heap news) (hT : Top topProg loose mean mg mb h₀) (hk : cs.kind = .function)
    (hdp : dp + 4 < recursionLimit) (hun : un + 30 < cLine)
    (hlt : f0 < 50 → ∀ (D : Addr) (h' : Heap) (tk' : Nat), (∀ p ∈ news, p.1 < D) → Fr h₀ L h' m → News h₀ L h' ((D, { cls := .type "tuple", data := .seq #[.str (Str.ofString "SunOS") t1, .str (rel [fld f0, fld f1, fld f2, fld f3]) t2, .str vs t3] }) :: news) → Q (.ref D) { s with heap := h', toks := tk' })
    (hge : 50 ≤ f0 → ∀ (D : Addr) (h' : Heap) (tk' : Nat) (u1 u2 : Tok), (∀ p ∈ news, p.1 < D) → Fr h₀ L h' m → News h₀ L h' ((D, { cls := .type "tuple", data := .seq #[.str (Str.ofString "Solaris") u1, .str (rel [fld (f0 - 3), fld f1, fld f2, fld f3]) u2, .str vs t3] }) :: news) → Q (.ref D) { s with heap := h', toks := tk' }) :
    wpAny (model PySem.Challenge.rw_wb0014_01.row.prog w) (ktrTop dp un gd cn cs L a ccd cl outer) (call (.ref 38) [.str (Str.ofString "SunOS") t1, .str (rel [fld f0, fld f1, fld f2, fld f3]) t2, .str vs t3]) Q E s := by
  revert hX
  k_fill
  intro hX
  have hlt5 := rel_lt (a := f0) (q := fld f1) (r := [fld f2, fld f3]) (by omega) (by omega)
  have hf4 : F4 f0 f1 f2 f3 := ⟨⟨by omega, by omega⟩, ⟨by omega, by omega⟩, ⟨by omega, by omega⟩, ⟨by omega, by omega⟩⟩
  have hf5 : F4 (f0 - 3) f1 f2 f3 := ⟨⟨by omega, by omega⟩, ⟨by omega, by omega⟩, ⟨by omega, by omega⟩, ⟨by omega, by omega⟩⟩
  have i1 : 0 ≤ f0 := by omega
  have i2 : f0 < 10 ^ 10 := by omega
  refine wpAny_call ?_
  k_dflt cell_enter
  k_steps
  · rename (rel _).cps.toList < _ => hc
    rename Fr h₀ _ _ _ => F6
    rename News h₀ _ _ _ => N6
    exact hlt (hlt5.mp hc) _ _ _ (by assumption) F6 N6
  all_goals
    rename ¬ (rel [fld f0, fld f1, fld f2, fld f3]).cps.toList < _ => hc
    have hc' : 50 ≤ f0 := by rw [hlt5] at hc; omega
    rename Fr h₀ _ _ _ => F6
    rename News h₀ _ _ _ => N6
    rename _ < _ ∧ _ => l6
    exact hge hc' _ _ _ _ _ (allLt_all l6.2) F6 (kst_newsOf N6 (List.forall_mem_cons.mpr ⟨.head _, fun p hp => .tail _ (.tail _ hp)⟩))
def sysT (b : Bool) : Str := cond b (Str.ofString "Solaris") (Str.ofString "SunOS")
def stepT (b : Bool) (f : Int) : Int := cond b (f - 3) f
structure B4 (f0 f1 f2 f3 : Int) : Prop where
  a : 47 ≤ f0 ∧ f0 < 60
  b : 47 ≤ f1 ∧ f1 < 60
  c : 47 ≤ f2 ∧ f2 < 60
  d : 47 ≤ f3 ∧ f3 < 60
theorem sysal_c {w : World} {mean : ExcName → Option Value} {mg mb : Str → Option Value} {loose : List Str} {news : List (Addr × Obj)} {f0 f1 f2 f3 : Int} {vs : Str} {t1 t2 t3 : Tok}
    {dp un : Nat} {gd : Option (List Code)} {cn : Str} {cs : Scope} {a : Addr} {ccd : Value} {cl : List (Str × Addr)} {outer : List Env} {A₀ : Around} {base h₀ : Heap} {L : Addr} {m : Str → Option Value} {s : Shared} {Q E : Value → Shared → Prop}
    (hb : B4 f0 f1 f2 f3)
    (hB : Below A₀ base outer h₀) (hF : Fr h₀ L s.heap m) (hX : (hd.heap_39 w.params).In h₀)
    (hN : News h₀ L s.heap news) (hT : Top topProg loose mean mg mb h₀) (hk : cs.kind = .function)
    (hdp : dp + 4 < recursionLimit) (hun : un + 30 < cLine)
    (hret : ∀ (b : Bool) (D : Addr) (h' : Heap) (tk' : Nat) (u1 u2 : Tok), (b = true ↔ 50 ≤ f0) → (∀ p ∈ news, p.1 < D) → Fr h₀ L h' m → News h₀ L h' ((D, { cls := .type "tuple", data := .seq #[.str (sysT b) u1, .str (rel [fld (stepT b f0), fld f1, fld f2, fld f3]) u2, .str vs t3] }) :: news) → Q (.ref D) { s with heap := h', toks := tk' }) :
    wpAny (model PySem.Challenge.rw_wb0014_01.row.prog w) (ktrTop dp un gd cn cs L a ccd cl outer) (call (.ref 38) [.str (Str.ofString "SunOS") t1, .str (rel [fld f0, fld f1, fld f2, fld f3]) t2, .str vs t3]) Q E s :=
  sysal_ok w mean mg mb loose news f0 f1 f2 f3 vs t1 t2 t3 hb.a hb.b hb.c hb.d dp un gd cn cs a ccd cl outer A₀ base h₀ L m s Q E hB hF hX hN hT hk hdp hun
    (fun h D h' tk' l F N => hret false D h' tk' _ _ ⟨fun e => (nomatch e), fun e => by omega⟩ l F N)
    (fun h D h' tk' u1 u2 l F N => hret true D h' tk' _ _ ⟨fun _ => h, fun _ => rfl⟩ l F N)
end
-- part CA
section
open PySem PySem.Calls PyProof.Rows PySem.W
theorem linesCA : True := by
  w_top off
  k_with_none
  k_with "subscriptTail Name Constant ref int" => (k_here; (with_reducible show wpAny _ _ (subscriptTail _ _ (Value.ref _) (Value.int _ _)) _ _ _); (first | (k_dflt (refine' item_tupleT ?t ?a ?b ?c ?d ?_; (case t => exact News.isTup (by k_asm) (by k_mem)); (case a => decide); (case b => decide); (case c => rfl); (case d => rfl); k_whole)) | (with_unfolding_all refine' item_litK ?k1 ?k2 ?k3 ?k4 ?_ ?k6; (case k1 => is_list); (case k2 => decide); (case k3 => decide); (case k4 => rfl); (case k6 => with_unfolding_all rfl); k_whole)))
  k_with "eval Name" => (k_here; k_dflt (refine' nameX_L ?F ?v ?_ ?a ?b; (case F => k_asm); (case a => rfl); (case b => rfl); (case v => rfl); k_whole))
  k_with "callWith ref" => (k_here; k_dflt (refine' callWith_K ?k1 ?k2 ?_; (case k1 => k_asm); (case k2 => k_is); k_whole))
  k_with "CompEnd" => k_dflt (refine LCg.CompEnd.intro (by assumption) (by assumption) _ (fun p hp => hp) (by assumption) (by lcg_src) ?_)
  k_with "pyIter ref" => ((with_reducible show wpAny _ _ (pyIter (Value.ref _)) (fun it s₂ => LoopAtV _ _ _ _ _ _ _ _ _ it s₂) _ _); refine Hold.out ?_)
  k_with "call builtin:str.join" => (k_here; (with_reducible show wpAny _ _ (call (Value.builtin "str.join") [Value.str (Str.ofString ".") _, Value.ref _]) _ _ _); k_dflt (refine' join4 (hf := ?f) (hN := ?N) (hm := ?m) (h := ?_); (case N => k_asm); (case m => k_mem); (case f => assumption)); intro _ _)
  k_with "call builtin:str.split" => (k_here; (with_reducible show wpAny _ _ (call (Value.builtin "str.split") [Value.str (rel _) _, Value.str _ _]) _ _ _); k_dflt (refine' split4 (hf := ?f) (hF := ?F) (hN := ?N) (h := ?_); (case f => assumption); (case F => k_asm); (case N => k_asm)); intro _ _ _ _ _ _ _ _ _ l1; (try k_lt l1); (revert l1; intro _))
  k_with "call ref" => (k_here; (with_reducible show wpAny _ _ (call (Value.ref 38) _) _ _ _); k_dflt (refine' sysal_c (hb := ?b) (hB := ?B) (hF := ?F) (hX := ?X) (hN := ?N) (hT := ?T) (hk := ?k) (hdp := ?dp) (hun := ?un) (hret := ?_); (case b => assumption); (case B => k_asm); (case F => k_asm); (case X => k_asm); (case N => k_asm); (case T => k_asm); (case k => first | exact rfl | assumption); (case dp => assumption); (case un => assumption)); intro _ _ _ _ _ _ _ l9 _ N9; (try k_lt l9); (try dsimp only at N9); (try dsimp only); (revert l9 N9; intro _ _))
  k_with "call builtin:list.append" => (k_here; (with_reducible show wpAny _ _ (call (Value.builtin "list.append") [Value.ref _, _]) _ _ _); k_dflt (refine' app_upd (F := ?F) (N := ?N) (U := ?U) (hsz := ?z) (h := ?_); (case F => k_asm); (case N => k_asm); (case U => exact Upd.tail (by first | assumption | k_ne) (Upd.tail (by first | assumption | k_ne) (Upd.tail (by first | assumption | k_ne) (Upd.head (List.forall_mem_cons.mpr ⟨by assumption, by assumption⟩))))); (case z => assumption)); intro _ _ _; (try dsimp only))
  k_with "exec While" => (k_here; (with_reducible show wpAny _ _ (PySem.exec (Stmt.While _ _ _ _) _) _ _ _); refine Hold.out ?_)
  k_with "RiPost" => (dsimp only [RiPost])
  trivial
structure CS where
  f0 : Int
  f1 : Int
  f2 : Int
  f3 : Int
  x : Tok
  vs : List Value
  ns : List Int
  k : Nat
def CS.led (cl : Addr) (rest : List (Addr × Obj)) (c : CS) : List (Addr × Obj) := (cl, W.listOf c.vs.toArray c.k) :: rest
def CS.names (c : CS) : List (Str × Value) := [(Str.ofString "release", .str (rel [fld c.f0, fld c.f1, fld c.f2, fld c.f3]) c.x)]
noncomputable def carst (n0 n1 n2 n3 : Int) : Nat → Int × Int × Int × Int × List Int
  | 0 => (47 + n0, 47 + n1, 47 + n2, 47 + n3, [])
  | i + 1 => let r := carst n0 n1 n2 n3 i; (r.2.1 + (r.1 - 47) / 3, r.2.2.1, r.2.2.2.1, r.1 - 3 * ((r.1 - 47) / 3), r.2.2.2.2 ++ [(r.1 - 47) / 3])
theorem carst_len (n0 n1 n2 n3 : Int) : ∀ i, (carst n0 n1 n2 n3 i).2.2.2.2.length = i
  | 0 => rfl
  | i + 1 => by
    show ((carst n0 n1 n2 n3 i).2.2.2.2 ++ [_]).length = i + 1
    rw [List.length_append, carst_len n0 n1 n2 n3 i]; rfl
structure CS.J (n0 n1 n2 n3 : Int) (i : Nat) (c : CS) : Prop where
  is : IntsAre c.vs c.ns
  ba : 47 ≤ c.f0 ∧ c.f0 ≤ 55
  bb : 47 ≤ c.f1 ∧ c.f1 ≤ 53
  bc : 47 ≤ c.f2 ∧ c.f2 ≤ 53
  bd : 47 ≤ c.f3 ∧ c.f3 ≤ 53
  e : (c.f0, c.f1, c.f2, c.f3, c.ns) = carst n0 n1 n2 n3 i
theorem CS.J.next {n0 n1 n2 n3 : Int} {i : Nat} {c : CS} (h : CS.J n0 n1 n2 n3 i c) {f q : Int} {x t : Tok} {k : Nat} (h1 : f + 3 * q = c.f0) (h2 : 47 ≤ f ∧ f < 50) :
    CS.J n0 n1 n2 n3 (i + 1) ⟨c.f1 + q, c.f2, c.f3, f, x, c.vs ++ [.int q t], c.ns ++ [q], k⟩ := by
  have ha := h.ba; have hb := h.bb; have hc := h.bc; have hd := h.bd; have he := h.e
  have hq : q = (c.f0 - 47) / 3 := by omega
  refine ⟨h.is.append (.cons _ _ .nil), ?_, hc, hd, ?_, ?_⟩ <;> dsimp only
  · omega
  · omega
  · rw [carst, ← he, ← hq]; simp only [Prod.mk.injEq]; refine ⟨trivial, trivial, trivial, ?_, trivial⟩; omega
theorem carst4 {c0 c1 c2 c3 f0 f1 f2 f3 : Int} {ns : List Int} (h : (f0, f1, f2, f3, ns) = carst c0 c1 c2 c3 4) :
    ∃ q0 q1 q2 q3, ns = [q0, q1, q2, q3] ∧ q0 = c0 / 3 ∧ q1 = (c1 + q0) / 3 ∧ q2 = (c2 + q1) / 3 ∧ q3 = (c3 + q2) / 3 ∧ f0 - 47 = c0 - 3 * q0 + q3 ∧ f1 - 47 = c1 + q0 - 3 * q1 ∧ f2 - 47 = c2 + q1 - 3 * q2 ∧ f3 - 47 = c3 + q2 - 3 * q3 := by
  simp only [carst, Prod.mk.injEq] at h
  obtain ⟨a0, a1, a2, a3, a4⟩ := h
  refine ⟨_, _, _, _, a4, ?_, ?_, ?_, ?_, ?_, ?_, ?_, ?_⟩ <;> omega
theorem ints4 {vs : List Value} {a b c d : Int} (h : IntsAre vs [a, b, c, d]) : ∃ x y z w, vs = [.int a x, .int b y, .int c z, .int d w] := by
  cases h with | cons _ x h => cases h with | cons _ y h => cases h with | cons _ z h => cases h with | cons _ w h => cases h; exact ⟨x, y, z, w, rfl⟩
structure WS where
  D : Addr
  b : Bool
  f0 : Int
  f1 : Int
  q : Int
  u1 : Tok
  u2 : Tok
  u3 : Tok
def WS.led (R : List (Addr × Obj)) (f2 f3 : Int) (c : WS) : List (Addr × Obj) := (c.D, { cls := .type "tuple", data := .seq #[.str (sysT c.b) c.u1, .str (rel [fld (stepT c.b c.f0), fld c.f1, fld f2, fld f3]) c.u2, .str (fld c.q) c.u3] }) :: R
def WS.names (c : WS) : List (Str × Value) := [(Str.ofString "named", .ref c.D)]
structure WS.P (F0 F1 : Int) (c : WS) : Prop where
  h : c.b = true ↔ 50 ≤ c.f0
  a : 47 ≤ c.f0
  q : 0 ≤ c.q
  e : c.f0 + 3 * c.q = F0
  f : c.f1 = F1 + c.q
theorem zero_fld : Str.ofString "0" = fld 0 := by decide +kernel
set_option maxHeartbeats 8000000 in
theorem carried_ok (w : World) (mean : ExcName → Option Value) (mg mb : Str → Option Value) (loose : List Str) (news : List (Addr × Obj)) (c0 c1 c2 c3 : Int) (x0 x1 x2 x3 : Tok) (kk : Nat) (ln : Addr)
    (h0 : 0 ≤ c0 ∧ c0 ≤ 6) (h1 : 0 ≤ c1 ∧ c1 ≤ 6) (h2 : 0 ≤ c2 ∧ c2 ≤ 6) (h3 : 0 ≤ c3 ∧ c3 ≤ 6)
    (dp un : Nat) (gd : Option (List Code)) (cn : Str) (cs : Scope) (a : Addr) (ccd : Value) (cl : List (Str × Addr)) (outer : List Env) (A₀ : Around) (base h₀ : Heap) (L : Addr) (m : Str → Option Value) (s : Shared) (Q E : Value → Shared → Prop)
    (hB : Below A₀ base outer h₀) (hF : Fr h₀ L s.heap m) (hX : (hd.heap_39 w.params).In h₀)
    (hN : News h₀ L s.heap ((ln, W.listOf #[.int c0 x0, .int c1 x1, .int c2 x2, .int c3 x3] kk) :: news)) (hT : Top topProg loose mean mg mb h₀) (hk : cs.kind = .function)
    (hdp : dp + 6 < recursionLimit) (hun : un + 50 < cLine)
    (hret : ∀ (D dl cl' : Addr) (h' : Heap) (tk' : Nat) (g0 g1 g2 g3 q0 q1 q2 q3 : Int) (y0 y1 y2 y3 z0 z1 z2 z3 : Tok) (k : Nat), q0 = c0 / 3 → q1 = (c1 + q0) / 3 → q2 = (c2 + q1) / 3 → q3 = (c3 + q2) / 3 →
      g0 = c0 - 3 * q0 + q3 → g1 = c1 + q0 - 3 * q1 → g2 = c2 + q1 - 3 * q2 → g3 = c3 + q2 - 3 * q3 → Fr h₀ L h' m →
      News h₀ L h' ((D, { cls := .type "tuple", data := .seq #[.ref dl, .ref cl'] }) :: (dl, LCg.lst [.int g0 y0, .int g1 y1, .int g2 y2, .int g3 y3]) :: (cl', W.listOf #[.int q0 z0, .int q1 z1, .int q2 z2, .int q3 z3] k) ::
        (ln, W.listOf #[.int c0 x0, .int c1 x1, .int c2 x2, .int c3 x3] kk) :: news) → Q (.ref D) { s with heap := h', toks := tk' }) :
    wpAny (model PySem.Challenge.rw_wb0014_01.row.prog w) (ktrTop dp un gd cn cs L a ccd cl outer) (call (.ref 55) [.ref ln]) Q E s := by
  revert hX
  k_fill
  intro hX
  have hf4 : F4 (47 + c0) (47 + c1) (47 + c2) (47 + c3) := ⟨⟨by omega, by omega⟩, ⟨by omega, by omega⟩, ⟨by omega, by omega⟩, ⟨by omega, by omega⟩⟩
  refine wpAny_call ?_
  k_dflt cell_enter
  k_steps
  unfold Hold
  rename Fr _ _ _ _ => F2
  rename News _ _ _ _ => N2
  rename IsRange _ _ _ _ _ _ _ _ => R2
  rename_i t8 k8 h8 l9 hh1 l19 hh2 Fx Nx hh3 tk2 t1 u1 v1 aK
  have N3 : News _ _ hh3 (CS.led l9 ((ln, W.listOf #[.int c0 x0, .int c1 x1, .int c2 x2, .int c3 x3] kk) :: news) ⟨47 + c0, 47 + c1, 47 + c2, 47 + c3, t8, [], [], 0⟩) :=
    kst_newsOf N2 (List.forall_mem_cons.mpr ⟨.head _, fun p hp => .tail _ (.tail _ hp)⟩)
  with_unfolding_all refine iter_rangeUnr (n := 4) (by rfl) R2 (by first | decide | rfl) (by first | decide | rfl) F2 N3 ?_
  intro I hI
  have hI1 : l9 ≠ I := Nat.ne_of_lt (hI _ (.head _))
  have hI2 : ln ≠ I := Nat.ne_of_lt (hI _ (.tail _ (.head _)))
  have hI3 : ∀ p ∈ news, p.1 ≠ I := fun p hp => Nat.ne_of_lt (hI _ (.tail _ (.tail _ hp)))
  have hL1 : ln ≠ l9 := Nat.ne_of_lt l19.2.1
  have hL2 : ∀ p ∈ news, p.1 ≠ l9 := fun p hp => Nat.ne_of_lt (allLt_all l19.2.2 p hp)
  refine rr_inv (CS.led l9 ((ln, W.listOf #[.int c0 x0, .int c1 x1, .int c2 x2, .int c3 x3] kk) :: news)) CS.names [Str.ofString "place", Str.ofString "named", Str.ofString "fields", Str.ofString "release"] _ (CS.J c0 c1 c2 c3) ?off ?turn ?fin 4 0 ⟨47 + c0, 47 + c1, 47 + c2, 47 + c3, t8, [], [], 0⟩ _ rfl ?J0 ?names0 (fun _ _ _ => rfl)
  case off =>
    intro i c hJ p hp
    simp only [CS.led, List.mem_cons] at hp
    rcases hp with rfl | rfl | hp
    exact hI1; exact hI2; exact hI3 p hp
  case J0 => exact ⟨.nil, ⟨by dsimp only; omega, by dsimp only; omega⟩, ⟨by dsimp only; omega, by dsimp only; omega⟩, ⟨by dsimp only; omega, by dsimp only; omega⟩, ⟨by dsimp only; omega, by dsimp only; omega⟩, rfl⟩
  case names0 => intro p hp; rcases List.mem_cons.mp hp with rfl | hp; rfl; exact absurd hp List.not_mem_nil
  case fin =>
    rintro ⟨f0, f1, f2, f3, x, vs, ns, k⟩ u h tk hJ F N
    have b0 : 47 ≤ f0 ∧ f0 ≤ 55 := hJ.ba
    have b1 : 47 ≤ f1 ∧ f1 ≤ 53 := hJ.bb
    have b2 : 47 ≤ f2 ∧ f2 ≤ 53 := hJ.bc
    have b3 : 47 ≤ f3 ∧ f3 ≤ 53 := hJ.bd
    have r1 : F4 f0 f1 f2 f3 := ⟨⟨by omega, by omega⟩, ⟨by omega, by omega⟩, ⟨by omega, by omega⟩, ⟨by omega, by omega⟩⟩
    have i0 : 0 ≤ f0 ∧ f0 < 10 ^ 10 := by omega
    have i1 : 0 ≤ f1 ∧ f1 < 10 ^ 10 := by omega
    have i2 : 0 ≤ f2 ∧ f2 < 10 ^ 10 := by omega
    have i3 : 0 ≤ f3 ∧ f3 < 10 ^ 10 := by omega
    obtain ⟨i01, i02⟩ := i0
    obtain ⟨i11, i12⟩ := i1
    obtain ⟨i21, i22⟩ := i2
    obtain ⟨i31, i32⟩ := i3
    obtain ⟨q0, q1, q2, q3, rfl, e0, e1, e2, e3, e4, e5, e6, e7⟩ := carst4 hJ.e
    obtain ⟨z0, z1, z2, z3, rfl⟩ := ints4 hJ.is
    dsimp only [CS.names, CS.led] at F N
    k_steps
    rename Fr h₀ _ _ _ => F6
    rename News h₀ _ _ _ => N6
    exact hret _ _ _ _ _ (f0 - 47) (f1 - 47) (f2 - 47) (f3 - 47) q0 q1 q2 q3 _ _ _ _ z0 z1 z2 z3 _ e0 e1 e2 e3 e4 e5 e6 e7 F6 (kst_newsOf N6 (List.forall_mem_cons.mpr ⟨.head _, List.forall_mem_cons.mpr ⟨.tail _ (.head _), fun p hp => .tail _ (.tail _ (.tail _ hp))⟩⟩))
  case turn =>
    rintro i ⟨f0, f1, f2, f3, x, vs, ns, k⟩ u t h tk hi hJ F8 N8
    have b0 : 47 ≤ f0 ∧ f0 ≤ 55 := hJ.ba
    have b1 : 47 ≤ f1 ∧ f1 ≤ 53 := hJ.bb
    have b2 : 47 ≤ f2 ∧ f2 ≤ 53 := hJ.bc
    have b3 : 47 ≤ f3 ∧ f3 ≤ 53 := hJ.bd
    have hb4 : B4 f0 f1 f2 f3 := ⟨⟨b0.1, by omega⟩, ⟨b1.1, by omega⟩, ⟨b2.1, by omega⟩, ⟨b3.1, by omega⟩⟩
    have hvs : vs.length ≤ sizeLine := by
      have e1 := hJ.is.length
      have e2 := congrArg (fun r : Int × Int × Int × Int × List Int => r.2.2.2.2.length) hJ.e
      rw [carst_len] at e2
      dsimp only at e1 e2
      rw [sizeLine_eq]; omega
    have hI4 : I ≠ l9 := Ne.symm hI1
    have hdpA : dp + 1 + 4 < recursionLimit := by omega
    have hunA : un + 3 + 30 < cLine := by omega
    dsimp only [CS.names, CS.led] at F8 N8
    k_steps
    unfold Hold
    rename Fr _ _ _ _ => F9
    rename News _ _ _ _ => N9
    rename_i b9 D9 h9 tk9 u91 u92 hb9 l29 h9b
    rw [zero_fld] at N9
    refine ksw_while (WS.led ((I, itR (0 + ((i + 1 : Nat) : Int)) (((4 : Nat) : Int) - ((i + 1 : Nat) : Int))) :: (l9, W.listOf vs.toArray k) :: (ln, W.listOf #[.int c0 x0, .int c1 x1, .int c2 x2, .int c3 x3] kk) :: news) f2 f3) WS.names (fun _ => True) [Str.ofString "named", Str.ofString "fields"] (WS.P f0 f1) (fun c => c.f0.toNat)
      ⟨D9, b9, f0, f1, 0, u91, u92, _⟩ F9 N9 trivial ?wn ?wP ?wturn ?pas
    case wn => intro p hp; rcases List.mem_cons.mp hp with rfl | hp; rfl; exact absurd hp List.not_mem_nil
    case wP => exact ⟨hb9, b0.1, by dsimp only; omega, by dsimp only; omega, by dsimp only; omega⟩
    case pas => passes_own
    case wturn =>
      rintro ⟨D, b, g0, g1, q, u1, u2, u3⟩ u' h' tk' _ hP F7 N7
      have p1 : b = true ↔ 50 ≤ g0 := hP.h
      have p2 : 47 ≤ g0 := hP.a
      have p3 : 0 ≤ q := hP.q
      have p4 : g0 + 3 * q = f0 := hP.e
      have p5 : g1 = f1 + q := hP.f
      have q1 : 0 ≤ g1 := by omega
      have q2 : g1 < 10 ^ 10 := by omega
      have q3 : q < 10 ^ 10 := by omega
      cases b with
      | false =>
        have p6 : g0 < 50 := by
          rcases Int.lt_or_le g0 50 with h | h
          · exact h
          · exact absurd (p1.mpr h) (by decide)
        have r1 : F4 g0 g1 f2 f3 := ⟨⟨by omega, by omega⟩, ⟨by omega, by omega⟩, ⟨by omega, by omega⟩, ⟨by omega, by omega⟩⟩
        have r2 : F4 g1 f2 f3 g0 := ⟨⟨by omega, by omega⟩, ⟨by omega, by omega⟩, ⟨by omega, by omega⟩, ⟨by omega, by omega⟩⟩
        dsimp only [WS.names, WS.led, sysT, stepT, cond] at F7 N7
        have hDl : D ≠ l9 := News.ne_cls N7 (.head _) (.tail _ (.tail _ (.head _))) (by intro e; injection e with e; exact absurd e (by decide))
        have hNext : ∀ x t k, CS.J c0 c1 c2 c3 (i + 1) ⟨g1, f2, f3, g0, x, vs ++ [.int q t], ns ++ [q], k⟩ := fun x t k => by
          have := hJ.next (x := x) (t := t) (k := k) p4 ⟨p2, p6⟩
          dsimp only at this
          rw [← p5] at this
          exact this
        k_steps
        rename Fr _ _ _ _ => F6
        rename News _ _ _ _ => N6
        refine ri_end ⟨g1, f2, f3, g0, _, vs ++ [.int q _], ns ++ [q], k + 1⟩ F6 N6 (List.forall_mem_cons.mpr ⟨.tail _ (.tail _ (.tail _ (.tail _ (.tail _ (.head _))))), List.forall_mem_cons.mpr ⟨.tail _ (.tail _ (.tail _ (.tail _ (.tail _ (.tail _ (.head _)))))), fun p hp => .tail _ (.tail _ (.tail _ (.tail _ (.tail _ (.tail _ (.tail _ hp))))))⟩⟩) (List.forall_mem_cons.mpr ⟨rfl, fun _ h => absurd h List.not_mem_nil⟩) ?rr (hNext _ _ _)
        case rr => (intro z h2 h3; (simp only [List.contains_cons, List.contains_nil, Bool.or_false, Bool.or_eq_false_iff, beq_eq_false_iff_ne, ne_eq] at h3); (simp [kstB, h3]))
      | true =>
        have p6 : 50 ≤ g0 := p1.mp rfl
        have r1 : F4 (g0 - 3) g1 f2 f3 := ⟨⟨by omega, by omega⟩, ⟨by omega, by omega⟩, ⟨by omega, by omega⟩, ⟨by omega, by omega⟩⟩
        have r2 : F4 (g0 - 3) (g1 + 1) f2 f3 := ⟨⟨by omega, by omega⟩, ⟨by omega, by omega⟩, ⟨by omega, by omega⟩, ⟨by omega, by omega⟩⟩
        have r3 : B4 (g0 - 3) (g1 + 1) f2 f3 := ⟨⟨by omega, by omega⟩, ⟨by omega, by omega⟩, ⟨by omega, by omega⟩, ⟨by omega, by omega⟩⟩
        dsimp only [WS.names, WS.led, sysT, stepT, cond] at F7 N7
        k_steps
        rename Fr _ _ _ _ => F6
        rename News _ _ _ _ => N6
        rename _ = true ↔ 50 ≤ g0 - 3 => hb6
        refine ksw_end ⟨_, _, g0 - 3, g1 + 1, q + 1, _, _, _⟩ F6 N6 (List.forall_mem_cons.mpr ⟨.head _, fun p hp => .tail _ (.tail _ (.tail _ (.tail _ (.tail _ (.tail _ (.tail _ (.tail _ hp)))))))⟩) trivial ?wn2 ?wr2 ⟨hb6, by dsimp only; omega, by dsimp only; omega, by dsimp only; omega, by dsimp only; omega⟩ ?wm2
        case wn2 => intro p hp; rcases List.mem_cons.mp hp with rfl | hp; rfl; exact absurd hp List.not_mem_nil
        case wr2 => (intro z h2 h3; (simp only [List.contains_cons, List.contains_nil, Bool.or_false, Bool.or_eq_false_iff, beq_eq_false_iff_ne, ne_eq] at h3); (simp [kstB, h3]))
        case wm2 => dsimp only; omega
end
-- part CC
section
open PySem PySem.Spec PySem.Calls PyProof.Rows PySem.W PyProof.Rows.LCg
abbrev noCell : Obj := { cls := .type "cell", data := .cell none }
abbrev noDict : Obj := { cls := .type "dict", data := .dict #[] }
theorem newEnv_cell {M : Model} {A : Around} {E : Value → Shared → Prop} {s : Shared} {scope : Scope} {globals : Addr} {cl : List (Str × Addr)} {qual : Str} {env : Env} {x : Str} {Q : Env → Shared → Prop}
    (hpc : ∀ h : Heap, pushCells h scope.names = h.push noCell) (hcf : ∀ n acc, cellsFrom n scope.names acc = (x, n) :: acc)
    (h : Q (newEnv scope s.heap.objs.size globals ((x, s.heap.objs.size + 1) :: cl) qual none .none (some env) builtinsNs) { s with heap := (s.heap.push noDict).push noCell }) :
    wpAny M A (newFunctionEnv scope globals cl [] qual none .none (some env)) Q E s := by
  simp only [newFunctionEnv, Option.isSome_some, if_true]
  refine wpAny_bind (wpAny_alloc ?_)
  refine wpAny_bind (wpAny_layCells _ (fun name kind cells => by cases hkc : kind == NameKind.cell <;> simp [hkc]) _ _ _ _ ?_)
  dsimp only
  rw [hpc, hcf, Heap.size_push]
  exact wpAny_bind (by rw [List.forIn_nil]; exact wpAny_pure (wpAny_pure h))
noncomputable def Off4 (I C D K : Addr) : List (Addr × Obj) → Prop
  | [] => True
  | p :: r => ((@Ne Nat p.1 I) ∧ (@Ne Nat p.1 C) ∧ (@Ne Nat p.1 D) ∧ (@Ne Nat p.1 K)) ∧ Off4 I C D K r
theorem Off4.mem {I C D K : Addr} : ∀ {l : List (Addr × Obj)}, Off4 I C D K l → ∀ p ∈ l, p.1 ≠ I ∧ p.1 ≠ C ∧ p.1 ≠ D ∧ p.1 ≠ K
  | [], _, _, h => nomatch h
  | _ :: _, x, p, h => by
    rcases List.mem_cons.mp h with rfl | h
    · exact x.1
    · exact Off4.mem x.2 p h
theorem Off4.of {I C D K : Addr} : ∀ {l : List (Addr × Obj)}, (∀ p ∈ l, p.1 ≠ I ∧ p.1 ≠ C ∧ p.1 ≠ D ∧ p.1 ≠ K) → Off4 I C D K l
  | [], _ => trivial
  | _ :: _, h => ⟨h _ List.mem_cons_self, Off4.of fun p hp => h p (List.mem_cons_of_mem _ hp)⟩
theorem Off4.one {I C D K : Addr} : ∀ {l : List (Addr × Obj)}, Off4 I C D K l → Off1 D l
  | [], _ => trivial
  | _ :: _, x => ⟨x.1.2.2.1, Off4.one x.2⟩
/-- an element's end -/
def CeEnd (h₀ : Heap) (L : Addr) (m : Str → Option Value) (s₁ : Shared) (I : Addr) (oI : Obj) (C : Addr) (oC : Obj) (D : Addr) (oD : Obj) (K : Addr) (oK : Obj) (S : List (Addr × Obj) → Prop) (rest : Value → List (Addr × Obj) → Prop) (y : Value) (s₂ : Shared) : Prop :=
  ∃ h' tk news', s₂ = { s₁ with heap := h', toks := tk } ∧ Fr h₀ L h' m ∧ News h₀ L h' ((I, oI) :: (C, oC) :: (D, oD) :: (K, oK) :: news') ∧ Off4 I C D K news' ∧ S news' ∧ rest y news'
theorem CeEnd.intro {h₀ : Heap} {L I C D K : Addr} {m : Str → Option Value} {s₁ : Shared} {oI oC oD oK : Obj} {S : List (Addr × Obj) → Prop} {rest : Value → List (Addr × Obj) → Prop} {y : Value} {h' : Heap} {tk : Nat} {all : List (Addr × Obj)}
    (F : Fr h₀ L h' m) (N : News h₀ L h' all) (news' : List (Addr × Obj)) (sub : ∀ p ∈ (I, oI) :: (C, oC) :: (D, oD) :: (K, oK) :: news', p ∈ all) (off : Off4 I C D K news') (hS : S news') (r : rest y news') :
    CeEnd h₀ L m s₁ I oI C oC D oD K oK S rest y { s₁ with heap := h', toks := tk } := ⟨h', tk, news', rfl, F, fun p hp => N p (sub p hp), off, hS, r⟩
/-- the turns that are left -/
noncomputable def CeRest (prog : Program) (w : World) (A : Around) (h₀ : Heap) (L : Addr) (m : Str → Option Value) (env : Env) (elt : Expr) (x : Str) (scope : Scope) (cl : List (Str × Addr)) (s : Shared) (S : List (Addr × Obj) → Prop) (P : Nat → Value → Prop)
    (Fin : List Value → List (Addr × Obj) → Prop) : Nat → Nat → List Value → List (Addr × Obj) → Prop
  | 0, _, ys, news => Fin ys news
  | k + 1, i, ys, news => ∀ v I oI C oC D K oK h tk (E' : Value → Shared → Prop), P i v → oK.data = .cell (some v) → Fr h₀ L h m → News h₀ L h ((I, oI) :: (C, oC) :: (D, lst ys) :: (K, oK) :: news) → Off4 I C D K news →
      ((@Ne Nat I C) ∧ (@Ne Nat I D) ∧ (@Ne Nat I K) ∧ (@Ne Nat C D) ∧ (@Ne Nat C K) ∧ (@Ne Nat D K)) →
      wpAny (model prog w) A (eval elt (compEnvC scope ((x, K) :: cl) C env)) (CeEnd h₀ L m { s with heap := h, toks := tk } I oI C oC D (lst ys) K oK S (fun y news' => CeRest prog w A h₀ L m env elt x scope cl s S P Fin k (i + 1) (ys ++ [y]) news')) E' { s with heap := h, toks := tk }
section
variable {prog : Program} {w : World} {A : Around} {E : Value → Shared → Prop} {s : Shared} {h₀ : Heap} {L : Addr} {m : Str → Option Value} {env : Env}
set_option maxHeartbeats 1000000 in
theorem block_C {elt iter : Expr} {x : Str} {px : Pos} {scope : Scope} {cl : List (Str × Addr)} {pos : Pos} {s₂ : Shared} {I : Addr} {fp : List Addr} {n : Nat} {P : Nat → Value → Prop} {St : Nat → Heap → Prop} {S : List (Addr × Obj) → Prop} {news : List (Addr × Obj)}
    {Fin : List Value → List (Addr × Obj) → Prop} {RR : Value → Addr → Result → Shared → Prop}
    (W : Walks prog w A I fp [I] n P St) (hsz : n ≤ sizeLine) (hIo : ∀ i h, St i h → ∃ o, h.get? I = some o)
    (hSt : ∀ i h h' o nw, St i h → h.get? I = some o → h'.get? I = some o → (∀ b o, h₀.get? b = some o → h'.get? b = some o) → News h₀ L h' nw → S nw → St i h')
    (hpc : ∀ h : Heap, pushCells h scope.names = h.push noCell) (hcf : ∀ n acc, cellsFrom n scope.names acc = (x, n) :: acc)
    (hkind : scope.kind = .function) (hx : (relabel scope env).names.lookup x = some .cell) (hst : St 0 s₂.heap) (hfp : ∀ b ∈ fp, b < s₂.heap.objs.size) (hbt : env.builtins = builtinsNs)
    (F : Fr h₀ L s₂.heap m) (N : News h₀ L s₂.heap news) (hIL : L ≠ I) (hI₀ : h₀.get? I = none) (off : ∀ p ∈ news, p.1 ≠ I) (hS : S news)
    (R : CeRest prog w A h₀ L m env elt x scope cl s₂ S P Fin n 0 [] news)
    (hRR : ∀ D C h tk m' ys news', Fr h₀ L h m → News h₀ L h ((D, lst ys) :: news') → Off1 D news' → h.Ns C m' → h₀.get? C = none → h₀.get? D = none → C ≠ L → D ≠ L → C ≠ D → (∀ p ∈ news', p.1 ≠ C) → Fin ys news' → RR (.ref D) C (.ok .next) { s₂ with heap := h, toks := tk }) :
    wpAny (model prog w) A (newList []) (fun acc s₃ => wpAny (model prog w) A (newFunctionEnv scope env.globals cl [] env.qual none .none (some env)) (fun cenv s₄ =>
      codeAny (model prog w) A (.compStart (.ListComp elt [⟨.Name x px, iter, [], 0⟩] scope pos) 0 (.ref I) acc { cenv with scope := relabel scope env }) (RR acc cenv.locals) s₄) E s₃) E s₂ := by
  refine wpAny_newObj_type (newEnv_cell hpc hcf ?_)
  have hD := s₂.heap.objs.size
  generalize hd : s₂.heap.objs.size = d
  have hIlt : I < d := hd ▸ hfp I (W.sub I (List.mem_singleton.mpr rfl))
  have hLlt : L < d := hd ▸ F.ns.lt
  have hlt : ∀ {b o}, s₂.heap.get? b = some o → b < d := fun e => hd ▸ Heap.lt_size e
  have nI0 : I ≠ d := Nat.ne_of_lt hIlt
  have nI1 : I ≠ d + 1 := Nat.ne_of_lt (Nat.lt_succ_of_lt hIlt)
  have nI2 : I ≠ d + 2 := Nat.ne_of_lt (Nat.lt_succ_of_lt (Nat.lt_succ_of_lt hIlt))
  have nL0 : L ≠ d := Nat.ne_of_lt hLlt
  have nL1 : L ≠ d + 1 := Nat.ne_of_lt (Nat.lt_succ_of_lt hLlt)
  have nL2 : L ≠ d + 2 := Nat.ne_of_lt (Nat.lt_succ_of_lt (Nat.lt_succ_of_lt hLlt))
  have d01 : (d : Nat) ≠ d + 1 := by omega
  have d02 : (d : Nat) ≠ d + 2 := by omega
  have d12 : (d + 1 : Nat) ≠ d + 2 := by omega
  have fresh₀ : ∀ a, d ≤ a → h₀.get? a = none := fun a ha => by
    cases e : h₀.get? a with
    | none => rfl
    | some o' => exact absurd (hlt (F.keep a o' e)) (Nat.not_lt.mpr ha)
  have s1 : (s₂.heap.push { cls := .type "list", dict := none, data := .seq ([] : List Value).toArray }).objs.size = d + 1 := by rw [Heap.size_push, hd]
  have s2 : ((s₂.heap.push { cls := .type "list", dict := none, data := .seq ([] : List Value).toArray }).push noDict).objs.size = d + 2 := by rw [Heap.size_push, s1]
  dsimp only
  rw [s1]
  generalize hh1 : ((s₂.heap.push { cls := .type "list", dict := none, data := .seq ([] : List Value).toArray }).push noDict).push noCell = h₁
  have old : ∀ b o, s₂.heap.get? b = some o → h₁.get? b = some o := fun b o e => hh1 ▸ Heap.get?_push_of_some _ (Heap.get?_push_of_some _ (Heap.get?_push_of_some _ e))
  have hacc : h₁.get? d = some (lst []) := hh1 ▸ Heap.get?_push_of_some _ (Heap.get?_push_of_some _ (hd ▸ Heap.get?_push_size _ rfl))
  have hdic : h₁.get? (d + 1) = some noDict := hh1 ▸ Heap.get?_push_of_some _ (s1 ▸ Heap.get?_push_size _ rfl)
  have hcel : h₁.get? (d + 2) = some noCell := hh1 ▸ (s2 ▸ Heap.get?_push_size _ rfl)
  have hst₁ : St 0 h₁ := W.frame _ _ _ hst fun b _ o e => old b o e
  have hns₁ : ∃ m', h₁.Ns (d + 1) m' := ⟨_, (by
    have q := Heap.Ns.new (s₂.heap.push { cls := .type "list", dict := none, data := .seq ([] : List Value).toArray }) (.type "dict")
    rw [s1] at q
    exact hh1 ▸ q.keeps fun b o e => Heap.get?_push_of_some _ e)⟩
  have loop : ∀ s₃ : Shared, s₃ = { s₂ with heap := h₁ } →
      codeAny (model prog w) A (.compLoop (.ListComp elt [⟨.Name x px, iter, [], 0⟩] scope pos) 0 (.ref I) (.ref d) (compEnvC scope ((x, d + 2) :: cl) (d + 1) env)) (RR (.ref d) (d + 1)) s₃ := by
    rintro s₃ rfl
    refine codeAny_compLoop_tests
      (fun k s' => ∃ h' tk i ys news' v₀ m', s' = { s₂ with heap := h', toks := tk } ∧ i ≤ n ∧ k = n + 1 - i ∧ ys.length = i ∧ St i h' ∧ Fr h₀ L h' m ∧ h'.IsCell (d + 2) v₀ ∧ h'.Ns (d + 1) m' ∧ News h₀ L h' ((d, lst ys) :: news') ∧
        Off4 I (d + 1) d (d + 2) news' ∧ S news' ∧ CeRest prog w A h₀ L m env elt x scope cl s₂ S P Fin (n - i) i ys news') ?_ (n + 1)
      ⟨h₁, s₂.toks, 0, [], news, none, hns₁.choose, rfl, Nat.zero_le _, rfl, rfl, hst₁, F.keeps old, ⟨_, hcel, rfl⟩, hns₁.choose_spec, fun p hp => ?_, Off4.of fun p hp => ?_, hS, R⟩
    · rintro k s' ⟨h', tk, i, ys, news', v₀, m', rfl, hi, rfl, hyl, hst', F', hc', hn', N', off', hS', R'⟩
      have off3 := off'.mem
      by_cases hin : i < n
      · obtain ⟨j, hj⟩ : ∃ j, n - i = j + 1 := ⟨n - i - 1, by omega⟩
        rw [hj] at R'
        refine W.item i _ _ _ hin hst' fun v h₂ tk₂ hPv hst₂ hk₂ => ?_
        have k2 : ∀ b o, b ≠ I → h'.get? b = some o → h₂.get? b = some o := fun b o hb e => hk₂ b o (fun q => hb (List.mem_singleton.mp q)) e
        obtain ⟨oc, ec, dc⟩ := hc'
        refine wpAny_assign_Name (wpAny_storeName_cell (env := compEnvC scope ((x, d + 2) :: cl) (d + 1) env) hkind hx (by show List.lookup x ((x, d + 2) :: cl) = _; simp) ⟨oc, k2 _ _ (Ne.symm nI2) ec, dc⟩ (fun h₃ hc₃ hs₃ => ?_))
        refine wpAny_tests_nil ?_
        simp only [if_true]
        obtain ⟨oI₂, eI₂⟩ := hIo _ _ hst₂
        have hst₃ : St (i + 1) h₃ := W.frame _ _ _ hst₂ fun b hb o e => hs₃.extBut b o (by have := hfp b hb; rw [hd] at this; exact Nat.ne_of_lt (Nat.lt_of_lt_of_le this (by omega))) e
        obtain ⟨oI, heI⟩ := hIo _ _ hst₃
        obtain ⟨oK, heK, hoK⟩ := hc₃
        have hn₃ : h₃.Ns (d + 1) m' := (hn'.at' fun o e => k2 _ o (Ne.symm nI1) e).sameBut hs₃ d12
        obtain ⟨oC, heC, hoC⟩ := ns_obj hn₃
        have F₃ : Fr h₀ L h₃ m := (fr_but F' hk₂ hIL hI₀).change hs₃ (Ne.symm nL2) (fresh₀ _ (by omega))
        have N₃ : News h₀ L h₃ ((I, oI) :: (d + 1, oC) :: (d, lst ys) :: (d + 2, oK) :: news') := fun p hp => by
          rcases List.mem_cons.mp hp with rfl | hp
          · exact ⟨heI, by show I ≠ L; exact Ne.symm hIL, hI₀⟩
          rcases List.mem_cons.mp hp with rfl | hp
          · exact ⟨heC, Ne.symm nL1, fresh₀ _ (by show d ≤ d + 1; omega)⟩
          rcases List.mem_cons.mp hp with rfl | hp
          · exact ⟨hs₃.extBut _ _ (d02) (k2 _ _ (Ne.symm nI0) (N' _ (.head _)).1), Ne.symm nL0, fresh₀ _ (Nat.le_refl _)⟩
          rcases List.mem_cons.mp hp with rfl | hp
          · exact ⟨heK, Ne.symm nL2, fresh₀ _ (by show d ≤ d + 2; omega)⟩
          · have z := N' p (.tail _ hp)
            exact ⟨hs₃.extBut _ _ (off3 p hp).2.2.2 (k2 _ _ (off3 p hp).1 z.1), z.2⟩
        refine wpAny_mono (R' v I oI (d + 1) oC d (d + 2) oK h₃ _ _ hPv hoK F₃ N₃ off' ⟨nI1, nI0, nI2, Ne.symm d01, d12, d02⟩) (fun y s₄ h₄ => ?_) fun _ _ e => e
        obtain ⟨h₄, tk₄, news₄, rfl, F₄, N₄, off₄, hS₄, R₄⟩ := h₄
        have off4 := off₄.mem
        have zI := (N₄ (I, oI) (.head _)).1
        have zC := (N₄ (d + 1, oC) (.tail _ (.head _))).1
        have zD := (N₄ (d, lst ys) (.tail _ (.tail _ (.head _)))).1
        have zK := (N₄ (d + 2, oK) (.tail _ (.tail _ (.tail _ (.head _))))).1
        have N₄' : News h₀ L h₄ news₄ := fun p hp => N₄ p (.tail _ (.tail _ (.tail _ (.tail _ hp))))
        have hst₄ : St (i + 1) h₄ := hSt _ _ _ _ _ hst₃ heI zI F₄.keep N₄' hS₄
        refine append_at (hsz := by show ys.toArray.size ≤ sizeLine; rw [List.size_toArray, hyl]; exact Nat.le_trans hi hsz) zD fun h₅ hs₅ hD₅ => ?_
        refine ⟨n + 1 - (i + 1), by omega, h₅, tk₄, i + 1, ys ++ [y], news₄, some v, m', rfl, hin, rfl, by rw [List.length_append, List.length_singleton, hyl], W.frame _ _ _ hst₄ fun b hb o e => hs₅.extBut b o (by have := hfp b hb; rw [hd] at this; exact Nat.ne_of_lt this) e, F₄.change hs₅ (Ne.symm nL0) (fresh₀ _ (Nat.le_refl _)),
          ⟨oK, hs₅.extBut _ _ (Ne.symm d02) zK, hoK⟩, (hoC.ns zC).sameBut hs₅ (Ne.symm d01), fun p hp => ?_, off₄, hS₄, ?_⟩
        · rcases List.mem_cons.mp hp with rfl | hp
          · exact ⟨hD₅.trans (congrArg some (lst_snoc ys y)), Ne.symm nL0, fresh₀ _ (Nat.le_refl _)⟩
          · exact ⟨hs₅.extBut _ _ (off4 p hp).2.2.1 (N₄' p hp).1, (N₄' p hp).2⟩
        · rw [show n - (i + 1) = j by omega]
          exact R₄
      · obtain rfl : i = n := Nat.le_antisymm hi (Nat.not_lt.mp hin)
        rw [Nat.sub_self] at R'
        refine W.done _ _ _ hst' fun h₂ tk₂ hk₂ => ?_
        exact hRR _ _ h₂ tk₂ _ ys news' (fr_but F' hk₂ hIL hI₀) (news_but N' hk₂ fun p hp => by
          rcases List.mem_cons.mp hp with rfl | hp
          · exact Ne.symm nI0
          · exact (off3 p hp).1) off'.one (hn'.at' fun o e => hk₂ _ o (fun q => nI1 (List.mem_singleton.mp q).symm) e) (fresh₀ _ (by omega)) (fresh₀ _ (Nat.le_refl _)) (Ne.symm nL1) (Ne.symm nL0) (Ne.symm d01) (fun p hp => (off3 p hp).2.1) R'
    · rcases List.mem_cons.mp hp with rfl | hp
      · exact ⟨hacc, Ne.symm nL0, fresh₀ _ (Nat.le_refl _)⟩
      · exact ⟨old _ _ (N p hp).1, (N p hp).2⟩
    · have := hlt (N p hp).1
      exact ⟨off p hp, Nat.ne_of_lt (Nat.lt_succ_of_lt this), Nat.ne_of_lt this, Nat.ne_of_lt (Nat.lt_succ_of_lt (Nat.lt_succ_of_lt this))⟩
  have e9 : { newEnv scope (d + 1) env.globals ((x, d + 2) :: cl) env.qual none .none (some env) builtinsNs with scope := relabel scope env } = compEnvC scope ((x, d + 2) :: cl) (d + 1) env := rfl
  rw [show d + 1 + 1 = d + 2 from rfl, e9]
  exact codeAny_compStart_list (loop _ rfl) (W.self 0 _ _ _ hst₁ (loop _ rfl))
def CeSrc (prog : Program) (w : World) (A : Around) (h₀ : Heap) (L : Addr) (m : Str → Option Value) (env : Env) (elt : Expr) (x : Str) (scope : Scope) (cl : List (Str × Addr)) (Fin : Shared → List Value → List (Addr × Obj) → Prop) (xv : Value) (s₁ : Shared) : Prop :=
  (∃ ax its news, xv = .ref ax ∧ A.handled = none ∧ Fr h₀ L s₁.heap m ∧ News h₀ L s₁.heap news ∧ SrcAt h₀ ax its news ∧ its.size ≤ sizeLine ∧
    ∀ s₂ : Shared, (∃ h, s₂ = { s₁ with heap := h }) → CeRest prog w A h₀ L m env elt x scope cl s₂ (SrcAt h₀ ax its) (fun i v => its[i]? = some v) (Fin s₂) its.size 0 [] news) ∨
  (∃ r a b t u v n news, xv = .ref r ∧ A.handled = none ∧ Fr h₀ L s₁.heap m ∧ News h₀ L s₁.heap news ∧ IsRange s₁.heap r a b 1 t u v ∧ Builtin.Range.small a b 1 = true ∧ Builtin.Range.rangeSize a b 1 = ((n : Nat) : Int) ∧ n ≤ sizeLine ∧
    ∀ s₂ : Shared, (∃ h, s₂ = { s₁ with heap := h }) → CeRest prog w A h₀ L m env elt x scope cl s₂ (fun _ => True) (fun i v => ∃ t, v = .int (a + (i : Int)) t) (Fin s₂) n 0 [] news)
theorem CeSrc.ledger {elt : Expr} {x : Str} {scope : Scope} {cl : List (Str × Addr)} {Fin : Shared → List Value → List (Addr × Obj) → Prop} {ax : Addr} {its : Array Value} {k : Nat} {news : List (Addr × Obj)} {s₁ : Shared}
    (hh : A.handled = none) (F : Fr h₀ L s₁.heap m) (N : News h₀ L s₁.heap news) (hm : (ax, ({ cls := .type "list", data := .seq its k } : Obj)) ∈ news) (hsz : its.size ≤ sizeLine)
    (h : ∀ g, CeRest prog w A h₀ L m env elt x scope cl { s₁ with heap := g } (SrcAt h₀ ax its) (fun i v => its[i]? = some v) (Fin { s₁ with heap := g }) its.size 0 [] news) :
    CeSrc prog w A h₀ L m env elt x scope cl Fin (.ref ax) s₁ := .inl ⟨ax, its, news, rfl, hh, F, N, .inr ⟨_, hm, rfl, _, rfl⟩, hsz, fun _ ⟨g, e⟩ => e ▸ h g⟩
theorem CeSrc.range {elt : Expr} {x : Str} {scope : Scope} {cl : List (Str × Addr)} {Fin : Shared → List Value → List (Addr × Obj) → Prop} {r : Addr} {a b : Int} {t u v : Tok} {n : Nat} {news : List (Addr × Obj)} {s₁ : Shared}
    (hh : A.handled = none) (F : Fr h₀ L s₁.heap m) (N : News h₀ L s₁.heap news) (hr : IsRange s₁.heap r a b 1 t u v) (hsm : Builtin.Range.small a b 1 = true) (hn : Builtin.Range.rangeSize a b 1 = ((n : Nat) : Int)) (hsz : n ≤ sizeLine)
    (h : ∀ g, CeRest prog w A h₀ L m env elt x scope cl { s₁ with heap := g } (fun _ => True) (fun i v => ∃ t, v = .int (a + (i : Int)) t) (Fin { s₁ with heap := g }) n 0 [] news) :
    CeSrc prog w A h₀ L m env elt x scope cl Fin (.ref r) s₁ := .inr ⟨r, a, b, t, u, v, n, news, rfl, hh, F, N, hr, hsm, hn, hsz, fun _ ⟨g, e⟩ => e ▸ h g⟩
theorem comp_C {elt iter : Expr} {x : Str} {px : Pos} {scope : Scope} {cl : List (Str × Addr)} {pos : Pos} {Fin : Shared → List Value → List (Addr × Obj) → Prop} {RR : Value → Addr → Result → Shared → Prop} {xv : Value} {s₁ : Shared}
    (hpc : ∀ h : Heap, pushCells h scope.names = h.push noCell) (hcf : ∀ n acc, cellsFrom n scope.names acc = (x, n) :: acc)
    (hkind : scope.kind = .function) (hx : (relabel scope env).names.lookup x = some .cell) (hbt : env.builtins = builtinsNs)
    (h₁ : CeSrc prog w A h₀ L m env elt x scope cl Fin xv s₁)
    (hRR : ∀ s₂ D C h tk m' ys news', (∃ h, s₂ = { s₁ with heap := h }) → Fr h₀ L h m → News h₀ L h ((D, lst ys) :: news') → Off1 D news' → h.Ns C m' → h₀.get? C = none → h₀.get? D = none → C ≠ L → D ≠ L → C ≠ D → (∀ p ∈ news', p.1 ≠ C) → Fin s₂ ys news' → RR (.ref D) C (.ok .next) { s₂ with heap := h, toks := tk }) :
    wpAny (model prog w) A (pyIter xv) (fun it s₂ => wpAny (model prog w) A (newList []) (fun acc s₃ => wpAny (model prog w) A (newFunctionEnv scope env.globals cl [] env.qual none .none (some env)) (fun cenv s₄ =>
      codeAny (model prog w) A (.compStart (.ListComp elt [⟨.Name x px, iter, [], 0⟩] scope pos) 0 it acc { cenv with scope := relabel scope env }) (RR acc cenv.locals) s₄) E s₃) E s₂) E s₁ := by
  rcases h₁ with ⟨ax, its, news, rfl, hh, F, N, S, hsz, R⟩ | ⟨r, a, b, t, u, v, n, news, rfl, hh, F, N, hr, hsm, hn, hsz, R⟩
  · have hl := S.list F.keep N
    have hlt : ax < s₁.heap.objs.size := by obtain ⟨_, e, _⟩ := hl; exact Heap.lt_size e
    refine wpAny_pyIter_list hl ?_
    have up : ∀ b o, s₁.heap.get? b = some o → (s₁.heap.push { cls := .type "list_iterator", data := .fields #[.ref ax, .int 0 0] }).get? b = some o := fun b o e => Heap.get?_push_of_some _ e
    refine block_C (Walks.list hh s₁.heap.objs.size ax (Nat.ne_of_lt hlt) its) hsz (fun i h st => by obtain ⟨o, e, _⟩ := st.1; exact ⟨o, e⟩) list_st hpc hcf hkind hx ⟨⟨_, Heap.get?_push_size _ rfl, rfl, rfl⟩, hl.push _⟩ (fun b hb => ?_) hbt
      (F.keeps up) (N.grown up) (Nat.ne_of_lt F.ns.lt) (next_is_new F) (fun p hp => Nat.ne_of_lt (Heap.lt_size (N p hp).1)) S (R _ ⟨_, rfl⟩) ?_
    · show b < (s₁.heap.push _).objs.size
      rw [Heap.size_push]
      rcases List.mem_cons.mp hb with rfl | hb
      · exact Nat.lt_succ_self _
      · rw [List.mem_singleton.mp hb]; exact Nat.lt_succ_of_lt hlt
    · exact fun D C h tk m' ys news' a1 a2 a3 a4 a5 a6 a7 a8 a9 b1 b2 => hRR _ D C h tk m' ys news' ⟨_, rfl⟩ a1 a2 a3 a4 a5 a6 a7 a8 a9 b1 b2
  · refine wpAny_pyIter_range hr hsm ?_
    refine block_C (range_walks hh a n) hsz (fun i h st => ⟨_, st⟩) range_st hpc hcf hkind hx (by show IsRangeIter _ _ _ _ _; rw [hn]; simpa using Heap.get?_push_size _ rfl) (fun b hb => ?_) hbt
      (F.keeps fun _ _ e => Heap.get?_push_of_some _ e) (N.grown fun _ _ e => Heap.get?_push_of_some _ e) (Nat.ne_of_lt F.ns.lt) (next_is_new F) (fun p hp => Nat.ne_of_lt (Heap.lt_size (N p hp).1)) trivial (R _ ⟨_, rfl⟩) ?_
    · rw [List.mem_singleton.mp hb]
      show s₁.heap.objs.size < (s₁.heap.push _).objs.size
      rw [Heap.size_push]; exact Nat.lt_succ_self _
    · exact fun D C h tk m' ys news' a1 a2 a3 a4 a5 a6 a7 a8 a9 b1 b2 => hRR _ D C h tk m' ys news' ⟨_, rfl⟩ a1 a2 a3 a4 a5 a6 a7 a8 a9 b1 b2
theorem ListComp_C {elt iter : Expr} {x : Str} {px : Pos} {scope : Scope} {cl : List (Str × Addr)} {pos : Pos} {Q : Value → Shared → Prop} (F₀ : Fr h₀ L s.heap m)
    (hclos : closureFor scope env = pure cl) (hpc : ∀ h : Heap, pushCells h scope.names = h.push noCell) (hcf : ∀ n acc, cellsFrom n scope.names acc = (x, n) :: acc) (hkind : scope.kind = .function)
    (hnames : ∀ y ∈ scope.names, y.2 = .local → scope.names.lookup y.1 = some .local) (hx : (relabel scope env).names.lookup x = some .cell) (hbt : env.builtins = builtinsNs)
    (h : wpAny (model prog w) A (eval iter env) (CeSrc prog w A h₀ L m env elt x scope cl (fun s₂ => FinE h₀ L m s₂ Q)) E s)
    (hs : ∀ x, foldedSetIterable iter env x = pure x := by intro _; rfl) :
    wpAny (model prog w) A (eval (.ListComp elt [⟨.Name x px, iter, [], 0⟩] scope pos) env) Q E s := by
  rw [eval_ListComp]
  refine wpAny_comprehension_free (use := none) rfl hs hclos hkind hnames (wpAny_mono h (fun xv s₁ h₁ => ?_) fun _ _ e => e)
  refine comp_C hpc hcf hkind hx hbt h₁ ?_
  rintro _ D C h tk m' ys news' ⟨g, rfl⟩ F' N' o1 hn hC₀ hD₀ hCL hDL hCD offC fin
  refine ⟨m', hn, fun h'' hs'' => fin D h'' tk (F'.change hs'' hCL hC₀) (fun p hp => ?_) o1⟩
  refine ⟨hs''.extBut _ _ ?_ (N' p hp).1, (N' p hp).2⟩
  rcases List.mem_cons.mp hp with rfl | hp
  · exact Ne.symm hCD
  · exact offC p hp
theorem Assign_ListComp_C {elt iter : Expr} {x y : Str} {px py : Pos} {scope : Scope} {cl : List (Str × Addr)} {pos spos : Pos} {Q : Flow → Shared → Prop} (F₀ : Fr h₀ L s.heap m) (hLe : env.locals = L)
    (hsw : swapsWith (.ListComp elt [⟨.Name x px, iter, [], 0⟩] scope pos) (some (.Name y py)) spos.line env = pure true)
    (hclos : closureFor scope env = pure cl) (hpc : ∀ h : Heap, pushCells h scope.names = h.push noCell) (hcf : ∀ n acc, cellsFrom n scope.names acc = (x, n) :: acc) (hkind : scope.kind = .function)
    (hnames : ∀ z ∈ scope.names, z.2 = .local → scope.names.lookup z.1 = some .local) (hx : (relabel scope env).names.lookup x = some .cell) (hbt : env.builtins = builtinsNs)
    (hy : env.kindOf y = some .local) (hp : (env.scope.kind == .class || (env.scope.kind == .module && env.locals != env.globals)) = false)
    (h : wpAny (model prog w) A (eval iter env) (CeSrc prog w A h₀ L m env elt x scope cl (fun s₂ => FinA h₀ L m s₂ y Q)) E s)
    (hs : ∀ x, foldedSetIterable iter env x = pure x := by intro _; rfl) :
    wpAny (model prog w) A (exec (.Assign [.Name y py] (.ListComp elt [⟨.Name x px, iter, [], 0⟩] scope pos) spos) env) Q E s := by
  subst hLe
  rw [exec_Assign_Name_used _ _ _ _ hsw]
  refine wpAny_bind (wpAny_standAt (wpAny_bind ?_))
  show wpAny _ A (do let _ ← comprehension (.ListComp elt [⟨.Name x px, iter, [], 0⟩] scope pos) scope env _ (newList []) false (eval iter env) (some (assign (.Name y py) env))) _ _ s
  refine wpAny_bind (wpAny_mono (wpAny_comprehension_free (use := some (assign (.Name y py) env)) (Q := fun _ s' => Q .next s') rfl hs hclos hkind hnames
    (wpAny_mono h (fun xv s₁ h₁ => ?_) fun _ _ e => e)) (fun _ s' hq => wpAny_pure (wpAny_pure hq)) fun _ _ e => e)
  refine comp_C hpc hcf hkind hx hbt h₁ ?_
  rintro _ D C h' tk m' ys news' ⟨g, rfl⟩ F' N' o1 hn hC₀ hD₀ hCL hDL hCD offC fin
  show wpAny _ A (assign (.Name y py) env (.ref D)) _ _ _
  refine wpAny_assign_Name (wpAny_storeName_local hy F'.ns (fun h₂ hn₂ hs₂ => ?_) hp)
  have hL₀ : h₀.get? env.locals = none := Heap.get?_none_of_le F'.above
  have F₂ : Fr h₀ env.locals h₂ (fun z => if z = y then some (.ref D) else m z) := ⟨hn₂, fun b o e => hs₂.extBut b o (fun q => by rw [q, hL₀] at e; cases e) (F'.keep b o e), F'.above⟩
  refine ⟨m', hn.sameBut hs₂ hCL, fun h'' hs'' => fin D h'' _ (F₂.change hs'' hCL hC₀) (fun p hp => ?_) o1⟩
  have z : h₂.get? p.1 = some p.2 := hs₂.extBut _ _ (N' p hp).2.1 (N' p hp).1
  refine ⟨hs''.extBut _ _ ?_ z, (N' p hp).2⟩
  rcases List.mem_cons.mp hp with rfl | hp
  · exact Ne.symm hCD
  · exact offC p hp
end
end
-- part CN
section
open PySem PySem.Calls PyProof.Rows PySem.W PySem.Builtin.Str PySem.StrLaws
/-- how often the six signs stand in a text, from the left -/
noncomputable def cnt6 : Nat → List Nat → Nat
  | _, [] => 0
  | 0, x :: l => if lits.isPrefixOf (x :: l) = true then 1 + cnt6 5 l else cnt6 0 l
  | n + 1, _ :: l => cnt6 n l
theorem cnt6_nil (n : Nat) : cnt6 n [] = 0 := by cases n <;> rfl
theorem cnt6_drop : ∀ n l, cnt6 n l = cnt6 0 (l.drop n)
  | 0, l => by rw [List.drop_zero]
  | n + 1, [] => by rw [cnt6_nil, List.drop_nil, cnt6_nil]
  | n + 1, x :: l => by
    show cnt6 n l = cnt6 0 (l.drop n)
    exact cnt6_drop n l
theorem cnt6_lits (r : List Nat) : cnt6 0 (lits ++ r) = 1 + cnt6 0 r := by
  show (if lits.isPrefixOf (lits ++ r) = true then 1 + cnt6 5 ([97, 116, 32, 48, 120] ++ r) else _) = _
  rw [if_pos (List.isPrefixOf_iff_prefix.mpr (List.prefix_append _ _)), cnt6_drop 5]
  rfl
theorem cnt6_skip (r : List Nat) : ∀ P : List Nat, (∀ c ∈ P, c ≠ 32) → cnt6 0 (P ++ r) = cnt6 0 r
  | [], _ => rfl
  | x :: P, h => by
    show (if lits.isPrefixOf (x :: (P ++ r)) = true then _ else cnt6 0 (P ++ r)) = _
    rw [if_neg, cnt6_skip r P fun c hc => h c (.tail _ hc)]
    intro e
    obtain ⟨t, ht⟩ := List.isPrefixOf_iff_prefix.mp e
    have : 32 = x := (List.cons.inj ht).1
    exact h x (.head _) this.symm
theorem cnt6_seg : ∀ segs : List (Option (List Nat)), (∀ h, some h ∈ segs → ∀ c ∈ h, hexc c = true) → cnt6 0 (segs.flatMap segL) = ids segs
  | [], _ => rfl
  | s :: r, h => by
    have ih := cnt6_seg r fun v hv => h v (.tail _ hv)
    rw [List.flatMap_cons]
    cases s with
    | none =>
      rw [show segL none = [62] from rfl, cnt6_skip _ [62] (by decide), ih]
      unfold ids; rw [List.countP_cons]; rfl
    | some v =>
      rw [show segL (some v) = lits ++ (v ++ [62]) from by simp [segL], List.append_assoc, cnt6_lits, cnt6_skip _ (v ++ [62]) (fun c hc => by
        rcases List.mem_append.mp hc with hc | hc
        · exact (hex_no (h v (.head _) c hc)).1
        · rw [List.mem_singleton.mp hc]; decide), ih]
      unfold ids; rw [List.countP_cons]; simp; omega
theorem cnt6_rend {core segs} (x : WF core segs) : cnt6 0 (rendL core segs) = ids segs + 1 := by
  obtain ⟨k, hk, hkh, _⟩ := core_parts x.c
  unfold rendL
  rw [cnt6_skip _ _ (fun c hc => by rw [(List.mem_replicate.mp hc).2]; decide), hk, List.append_assoc, cnt6_skip _ [60, 48] (by decide), List.append_assoc, cnt6_lits, cnt6_skip _ (k ++ [62]) (fun c hc => by
        rcases List.mem_append.mp hc with hc | hc
        · exact (hex_no (hkh c hc)).1
        · rw [List.mem_singleton.mp hc]; decide), cnt6_seg segs fun h hh => (x.h h hh).2.2]
  omega
def litsS : Str := ⟨lits.toArray⟩
theorem at_lits {x : Str} {i : Nat} (h : lits.isPrefixOf (x.cps.toList.drop i) = true) : At x litsS x.length i := by
  have hp := List.isPrefixOf_iff_prefix.mp h
  have hl := hp.length_le
  have e6 : litsS.length = 6 := rfl
  have hx : x.cps.toList.length = x.length := by simp [Str.length]
  refine ⟨?_, ?_⟩
  · rw [List.length_drop] at hl
    have : lits.length = 6 := rfl
    rw [e6]; omega
  · rw [subAt_eq]
    have e := List.prefix_iff_eq_take.mp hp
    have e7 : lits.length = 6 := rfl
    rw [e7] at e
    rw [e6, ← e]
    exact beq_self_eq_true _
theorem lits_at {x : Str} {i : Nat} (h : At x litsS x.length i) : lits.isPrefixOf (x.cps.toList.drop i) = true := by
  have h2 := h.2
  rw [subAt_eq] at h2
  have h3 := eq_of_beq h2
  refine List.isPrefixOf_iff_prefix.mpr (List.prefix_iff_eq_take.mpr ?_)
  exact h3.symm
theorem cnt6_gap {x : Str} : ∀ d a, (∀ k, a ≤ k → k < a + d → ¬ At x litsS x.length k) → cnt6 0 (x.cps.toList.drop a) = cnt6 0 (x.cps.toList.drop (a + d))
  | 0, a, _ => rfl
  | d + 1, a, h => by
    have ih := cnt6_gap (x := x) d (a + 1) fun k h1 h2 => h k (by omega) (by omega)
    rw [show a + (d + 1) = a + 1 + d from by omega, ← ih]
    rcases Nat.lt_or_ge a x.cps.toList.length with hl | hl
    · have hn : ¬ lits.isPrefixOf (x.cps.toList.drop a) = true := fun e => h a (by omega) (by omega) (at_lits e)
      rw [List.drop_eq_getElem_cons hl] at hn ⊢
      show (if _ then _ else cnt6 0 _) = _
      rw [if_neg hn]
    · rw [List.drop_eq_nil_of_le hl, List.drop_eq_nil_of_le (by omega)]
theorem cnt6_chain {x : Str} : ∀ (cuts : List Nat) (a f : Nat), ChainG x litsS x.length a cuts f → (∀ k, f ≤ k → ¬ At x litsS x.length k) → cnt6 0 (x.cps.toList.drop a) = cuts.length
  | [], a, f, h, hn => by
    have e : f = a := h
    subst e
    rw [cnt6_gap x.cps.toList.length f fun k h1 _ => hn k h1, List.drop_eq_nil_of_le (by omega)]
    rfl
  | c :: r, a, f, h, hn => by
    obtain ⟨hac, hAt, hgap, hrest⟩ := h
    have ih := cnt6_chain r _ f hrest hn
    rw [cnt6_gap (c - a) a fun k h1 h2 => hgap k h1 (by omega), show a + (c - a) = c from by omega]
    obtain ⟨t, ht⟩ := List.isPrefixOf_iff_prefix.mp (lits_at hAt)
    rw [← ht, cnt6_lits]
    have : t = x.cps.toList.drop (c + litsS.length) := by
      rw [← List.drop_drop, ← ht]
      show t = List.drop 6 (lits ++ t)
      rfl
    rw [this, ih, List.length_cons]; omega
theorem count_rend {core segs} (x : WF core segs) : Txt.count (rend core segs) (Str.ofString " at 0x") = (ids segs : Int) + 1 := by
  have hs : Str.ofString " at 0x" = litsS := str_ext (by rw [at_cps]; rfl)
  rw [hs]
  obtain ⟨f, hG, hn⟩ := occ_tight (rend core segs) litsS (by decide)
  have := cnt6_chain _ 0 f hG hn
  unfold Txt.count
  rw [← this, List.drop_zero]
  have e : (rend core segs).cps.toList = rendL core segs := by simp [rend]
  rw [e, cnt6_rend x]; rfl
/-- behind the last peeling -/
theorem fold_rep (c : Nat) : ∀ n (acc : Array Nat), (List.replicate n #[c]).foldl (· ++ ·) acc = acc ++ (List.replicate n c).toArray
  | 0, acc => by simp
  | n + 1, acc => by rw [List.replicate_succ, List.foldl_cons, fold_rep c n, List.replicate_succ]; apply Array.toList_inj.mp; simp
theorem mul_rep (c n : Nat) : Txt.mul ⟨#[c]⟩ (n : Int) = ⟨(List.replicate n c).toArray⟩ := by
  unfold Txt.mul
  match n with
  | 0 => rfl
  | 1 => rfl
  | n + 2 =>
    rw [if_neg (by omega), if_neg, fold_rep]
    · congr 1; apply Array.toList_inj.mp; simp [show ((n : Int) + 2).toNat = n + 2 from by omega]
    · rw [Bool.or_eq_true, not_or]
      refine ⟨by simp; omega, by show ¬ ((1 : Nat) == 0) = true; decide⟩
theorem rend_bare {core : List Nat} {segs : List (Option (List Nat))} {W : Int} (h : ids segs = 0) (hW : W = (segs.length : Int)) : Txt.mul (Str.ofString "<") W ++ rend core [] ++ Txt.mul (Str.ofString ">") W = rend core segs := by
  subst hW
  rw [show Str.ofString "<" = ⟨#[60]⟩ from by decide +kernel, show Str.ofString ">" = ⟨#[62]⟩ from by decide +kernel, mul_rep, mul_rep]
  refine str_ext ?_
  rw [cps_app, cps_app]
  simp only [rend, rendL, Array.toList_append, List.toList_toArray]
  rw [none_segs segs h, flat_none, List.length_replicate]
  simp
end
-- part LS10
section
open PySem PySem.Calls PyProof.Rows PySem.W
section
theorem Led.one {ps : Array Value} {e : Addr × Obj} {rest : List (Addr × Obj)} (h : ∀ p ∈ rest, p.1 ≠ 45) : Led ((45, tabObj ps) :: e :: rest) ps [e] (fun ps' ext' => (45, tabObj ps') :: (ext' ++ rest)) := Led.head (ext := [e]) h
theorem strip_F {w : World} {mean : ExcName → Option Value} {mg mb : Str → Option Value} {loose : List Str} {news ext : List (Addr × Obj)} {g : Array Value → List (Addr × Obj) → List (Addr × Obj)} {ps : Array Value} {core : List Nat} {segs : List (Option (List Nat))} {tx : Tok}
    {dp un : Nat} {gd : Option (List Code)} {cn : Str} {cs : Scope} {a : Addr} {ccd : Value} {cl : List (Str × Addr)} {outer : List Env} {A₀ : Around} {base h₀ : Heap} {L : Addr} {m : Str → Option Value} {s : Shared} {Q E : Value → Shared → Prop}
    (hW : WF core segs) (hTab : StripTab ps ext) (hfull : ext ≠ []) (U : Led news ps ext g)
    (hB : Below A₀ base outer h₀) (hF : Fr h₀ L s.heap m) (hX : (hd.heap_39 w.params).In h₀) (hN : News h₀ L s.heap news) (hT : Top topProg loose mean mg mb h₀) (hC : CodeHd h₀ 49 45) (hk : cs.kind = .function)
    (hdp : dp + 4 < recursionLimit) (hun : un + 30 < cLine)
    (hret : ∀ (t : Tok) (h' : Heap) (tk' : Nat), Fr h₀ L h' m → News h₀ L h' (g ps ext) → Q (.str (rend core (stripL segs)) t) { s with heap := h', toks := tk' }) :
    wpAny (model PySem.Challenge.rw_wb0014_01.row.prog w) (ktrTop dp un gd cn cs L a ccd cl outer) (call (.ref 50) [.str (rend core segs) tx]) Q E s :=
  strip_L hW hTab U hB hF hX hN hT hC hk hdp hun fun t h' tk' ps' ext' hx F' N' => by obtain ⟨rfl, rfl⟩ := hx.same hfull; exact hret t h' tk' F' N'
theorem count_W {prog : Program} {w : World} {A : Around} {E : Value → Shared → Prop} {s : Shared} {core : List Nat} {segs : List (Option (List Nat))} {g : Int} {t u : Tok} {Q : Value → Shared → Prop} (hW : WF core segs) (hg : (ids segs : Int) = g)
    (h : Q (.int (g + 1) s.toks) { s with toks := s.toks + 1 }) : wpAny (model prog w) A (call (.builtin "str.count") [.str (rend core segs) t, .str (Str.ofString " at 0x") u]) Q E s :=
  SC.count (by rw [count_rend hW, hg]; exact h)
theorem mul_W {prog : Program} {w : World} {A : Around} {E : Value → Shared → Prop} {s : Shared} {x : Str} {c : Nat} {W : Int} {t u : Tok} {Q : Value → Shared → Prop} (hx : x = ⟨#[c]⟩) (hW : 0 ≤ W ∧ W ≤ 100)
    (h : ∀ (y : Str) t' k, y = Txt.mul x W → y.length ≤ 100 → Q (.str y t') { s with toks := k }) : wpAny (model prog w) A (binaryOp .Mult (.str x t) (.int W u)) Q E s := by
  subst hx
  obtain ⟨n, rfl⟩ := Int.eq_ofNat_of_zero_le hW.1
  have hn : n ≤ 100 := by omega
  refine SB.mul (mulOk_of 16 1048576 (by show 1 ≤ 16; decide) (by omega) (by omega) (by decide) (by decide)) fun t' k => h _ t' k rfl ?_
  rw [mul_rep]
  show (List.replicate n c).toArray.size ≤ 100
  simpa using hn
theorem ltS : Str.ofString "<" = ⟨#[60]⟩ := by decide +kernel
theorem gtS : Str.ofString ">" = ⟨#[62]⟩ := by decide +kernel
theorem linesLS10 : True := by
  w_top off
  k_with_none
  k_with "subscriptTail Name Name ref int" => (k_here; (with_reducible show wpAny _ _ (subscriptTail (Expr.Name (Str.ofString "nests") _) _ (Value.ref _) (Value.int _ _)) _ _ _); (with_unfolding_all refine' item_litK ?k1 ?k2 ?k3 ?k4 ?_ ?k6; (case k1 => is_list); (case k2 => decide); (case k3 => decide); (case k4 => rfl); (case k6 => with_unfolding_all rfl); k_whole))
  k_with "eval Name" => (k_here; k_dflt (refine' nameX_L ?F ?v ?_ ?a ?b; (case F => k_asm); (case a => rfl); (case b => rfl); (case v => rfl); k_whole))
  k_with "callWith ref" => (k_here; k_dflt (refine' callWith_K ?k1 ?k2 ?_; (case k1 => k_asm); (case k2 => k_is); k_whole))
  k_with "binaryOp Mult str int" => (k_here; (with_reducible show wpAny _ _ (binaryOp Operator.Mult (Value.str _ _) (Value.int _ _)) _ _ _); (refine mul_W (by first | exact ltS | exact gtS) (by assumption) ?_); intro _ _ _ _ _)
  k_with "call builtin:str.count" => (k_here; (with_reducible show wpAny _ _ (call (Value.builtin "str.count") [Value.str _ _, Value.str _ _]) _ _ _); k_dflt (refine count_W (by assumption) (by assumption) ?_))
  k_with "call ref" => (k_here; (with_reducible show wpAny _ _ (call (Value.ref 50) _) _ _ _); k_dflt (refine' strip_F (hW := ?W) (hTab := ?tab) (hfull := ?fu) (U := ?U) (hB := ?B) (hF := ?F) (hX := ?X) (hN := ?N) (hT := ?T) (hC := ?C) (hk := ?k) (hdp := ?dp) (hun := ?un) (hret := ?_); (case tab => assumption); (case W => assumption); (case B => k_asm); (case F => k_asm); (case X => k_asm); (case N => k_asm); (case fu => exact List.cons_ne_nil _ _); (case U => exact Led.tail (by intro e; cases e) (Led.tail (by intro e; cases e) (Led.one (by assumption)))); (case T => k_asm); (case C => assumption); (case k => exact rfl); (case dp => decide); (case un => decide)); intro _ _ _ _ N9; (try dsimp only at N9); (try simp only [List.cons_append, List.nil_append] at N9); (try dsimp only); (revert N9; intro _))
  k_with "exec For Name Call cons nil" => (k_here; (with_unfolding_all refine' For_invVF (hE := ?hE) ?kF ?k1 ?k2 ?_; (case kF => k_asm); (case hE => first | assumption | passes_own); (case k1 => exact rfl); (case k2 => exact rfl); k_whole))
  k_with "pyIter ref" => ((with_reducible show wpAny _ _ (pyIter (Value.ref _)) (fun it s₂ => LoopAtV _ _ _ _ _ _ _ _ _ it s₂) _ _); refine Hold.out ?_)
  k_with "RiPost" => (dsimp only [RiPost])
  trivial
structure SS where
  sg : List (Option (List Nat))
  x : Tok
def SS.names (core : List Nat) (c : SS) : List (Str × Value) := [(Str.ofString "nest", .str (rend core c.sg) c.x)]
structure SS.J (core : List Nat) (S : List (Option (List Nat))) (j : Nat) (c : SS) : Prop where
  wf : WF core c.sg
  l : c.sg.length = S.length
  i : ids c.sg = ids S - j
theorem SS.J.step {core : List Nat} {S : List (Option (List Nat))} {j : Nat} {c : SS} (h : SS.J core S j c) {x : Tok} : SS.J core S (j + 1) ⟨stripL c.sg, x⟩ :=
  ⟨h.wf.strip, (stripL_length _).trans h.l, by show ids (stripL c.sg) = _; rw [ids_strip, h.i]; omega⟩
theorem range_small {n : Int} (h : 0 ≤ n ∧ n ≤ 6) : Builtin.Range.small 0 n 1 = true ∧ Builtin.Range.rangeSize 0 n 1 = ((n.toNat : Nat) : Int) := by
  obtain ⟨k, rfl⟩ := Int.eq_ofNat_of_zero_le h.1
  have hk : k ≤ 6 := by omega
  have : ∀ k, k ≤ 6 → Builtin.Range.small 0 ((k : Nat) : Int) 1 = true ∧ Builtin.Range.rangeSize 0 ((k : Nat) : Int) 1 = (((k : Nat) : Int).toNat : Int) := by decide
  exact this k hk
theorem bare_end {core : List Nat} {S sg2 : List (Option (List Nat))} {x : Tok} {g W : Int} {y1 y2 : Str} (hJ : SS.J core S (g + 1).toNat ⟨sg2, x⟩) (hi : (ids S : Int) = g) (hl : (S.length : Int) = W) (h1 : y1 = Txt.mul (Str.ofString "<") W) (h2 : y2 = Txt.mul (Str.ofString ">") W) :
    (rend core sg2 != y1 ++ rend core [] ++ y2) = false := by
  have e1 : ids sg2 = ids S - (g + 1).toNat := hJ.i
  have e2 : sg2.length = S.length := hJ.l
  rw [h1, h2, rend_bare (segs := sg2) (by omega) (by omega)]
  exact bne_self_eq_false _
set_option maxHeartbeats 8000000 in
theorem law_rest10 (w : World) (mean : ExcName → Option Value) (mg mb : Str → Option Value) (loose : List Str) (base : Heap) (L fa : Addr) (cd : Value) (s : Shared) (m : Str → Option Value) (Q : Flow → Shared → Prop) (E : Value → Shared → Prop)
    (n0 n1 n2 n3 g0 g1 g2 g3 q0 q1 q2 q3 : Int) (core : List Nat) (s0 s1 s2 s3 : List (Option (List Nat))) (tk p0 p1 p2 p3 x0 x1 x2 x3 y0 y1 y2 y3 z0 z1 z2 z3 : Tok) (kl k9 : Nat) (ca nl Dc dl cl : Addr) (oc : Obj) (ps : Array Value) (rest : List (Addr × Obj))
    (hB : Below callerA base [] base) (hX : (hd.heap_39 w.params).In base) (hT : Top topProg loose mean mg mb base) (hC : CodeHd base 49 45)
    (hF : Fr base L s.heap (fun y => if y = Str.ofString "nests" then some (.ref nl) else if y = Str.ofString "core" then some (.str (rend core []) tk) else if y = Str.ofString "carries" then some (.ref cl) else if y = Str.ofString "left" then some (.ref dl) else if y = Str.ofString "chips" then some (.ref Dc) else m y))
    (hN : News base L s.heap ((45, tabObj ps) :: (ca, oc) :: (nl, W.listOf #[.str (rend core s0) p0, .str (rend core s1) p1, .str (rend core s2) p2, .str (rend core s3) p3] kl) ::
      (dl, LCg.lst [.int g0 y0, .int g1 y1, .int g2 y2, .int g3 y3]) :: (cl, W.listOf #[.int q0 z0, .int q1 z1, .int q2 z2, .int q3 z3] k9) :: (Dc, LCg.lst [.int n0 x0, .int n1 x1, .int n2 x2, .int n3 x3]) :: rest))
    (hTab : StripTab ps [(ca, oc)]) (hr45 : ∀ p ∈ (nl, W.listOf #[.str (rend core s0) p0, .str (rend core s1) p1, .str (rend core s2) p2, .str (rend core s3) p3] kl) ::
      (dl, LCg.lst [.int g0 y0, .int g1 y1, .int g2 y2, .int g3 y3]) :: (cl, W.listOf #[.int q0 z0, .int q1 z1, .int q2 z2, .int q3 z3] k9) :: (Dc, LCg.lst [.int n0 x0, .int n1 x1, .int n2 x2, .int n3 x3]) :: rest, p.1 ≠ 45)
    (hw0 : WF core s0) (hw1 : WF core s1) (hw2 : WF core s2) (hw3 : WF core s3) (hi0 : (ids s0 : Int) = g0) (hi1 : (ids s1 : Int) = g1) (hi2 : (ids s2 : Int) = g2) (hi3 : (ids s3 : Int) = g3)
    (hl0 : (s0.length : Int) = n0 + 0) (hl1 : (s1.length : Int) = n1 + q0) (hl2 : (s2.length : Int) = n2 + q1) (hl3 : (s3.length : Int) = n3 + q2)
    (hg0 : 0 ≤ g0 + 1 ∧ g0 + 1 ≤ 6) (hg1 : 0 ≤ g1 + 1 ∧ g1 + 1 ≤ 6) (hg2 : 0 ≤ g2 + 1 ∧ g2 + 1 ≤ 6) (hg3 : 0 ≤ g3 + 1 ∧ g3 + 1 ≤ 6)
    (hE : PassesOwn (model PySem.Challenge.rw_wb0014_01.row.prog w) (callerA.deeper (envOfC (Str.ofString "law") lawScope L fa cd)) (envOfC (Str.ofString "law") lawScope L fa cd) E)
    (hQ : ∀ h' tk' (u : Str → Option Value), Fr base L h' (fun y => if [Str.ofString "place", Str.ofString "nest", Str.ofString "turn", Str.ofString "wraps"].contains y = true then u y else if y = Str.ofString "nests" then some (.ref nl) else if y = Str.ofString "core" then some (.str (rend core []) tk) else if y = Str.ofString "carries" then some (.ref cl) else if y = Str.ofString "left" then some (.ref dl) else if y = Str.ofString "chips" then some (.ref Dc) else m y) →
      News base L h' ((45, tabObj ps) :: (ca, oc) :: (nl, W.listOf #[.str (rend core s0) p0, .str (rend core s1) p1, .str (rend core s2) p2, .str (rend core s3) p3] kl) ::
      (dl, LCg.lst [.int g0 y0, .int g1 y1, .int g2 y2, .int g3 y3]) :: (cl, W.listOf #[.int q0 z0, .int q1 z1, .int q2 z2, .int q3 z3] k9) :: (Dc, LCg.lst [.int n0 x0, .int n1 x1, .int n2 x2, .int n3 x3]) :: rest) →
      wpAny (model PySem.Challenge.rw_wb0014_01.row.prog w) (callerA.deeper (envOfC (Str.ofString "law") lawScope L fa cd)) (execs (lawBody.drop 11) (envOfC (Str.ofString "law") lawScope L fa cd)) Q E { s with heap := h', toks := tk' }) :
    wpAny (model PySem.Challenge.rw_wb0014_01.row.prog w) (callerA.deeper (envOfC (Str.ofString "law") lawScope L fa cd)) (execs (lawBody.drop 10) (envOfC (Str.ofString "law") lawScope L fa cd)) Q E s := by
  revert hX
  k_fill
  intro hX
  have hcl : (rend core []).length ≤ 100000 := WF.len ⟨hw0.c, fun _ h => absurd h List.not_mem_nil, by decide⟩
  have hv0 : 0 ≤ n0 + 0 ∧ n0 + 0 ≤ 100 := by have := hw0.n; omega
  have hv1 : 0 ≤ n1 + q0 ∧ n1 + q0 ≤ 100 := by have := hw1.n; omega
  have hv2 : 0 ≤ n2 + q1 ∧ n2 + q1 ≤ 100 := by have := hw2.n; omega
  have hv3 : 0 ≤ n3 + q2 ∧ n3 + q2 ≤ 100 := by have := hw3.n; omega
  with_unfolding_all show wpAny _ (callerA.deeper (envOfC (Str.ofString "law") (Scope.mk _ _ _ _ _) L fa cd)) (execs (_ :: _) (envOfC (Str.ofString "law") (Scope.mk _ _ _ _ _) L fa cd)) Q E s
  k_steps
  unfold Hold
  rename Fr _ _ _ _ => F7
  rename News _ _ _ _ => N7
  rename IsRange _ _ _ _ _ _ _ _ => R7
  with_unfolding_all refine iter_rangeUnr (n := 4) (by rfl) R7 (by first | decide | rfl) (by first | decide | rfl) F7 N7 ?_
  intro I3 hI3
  refine rr_inv (σ := Unit) (fun _ => _) (fun _ => []) [Str.ofString "place", Str.ofString "nest", Str.ofString "turn", Str.ofString "wraps"] _ (fun _ _ => True) (fun _ _ _ p hp => Nat.ne_of_lt (hI3 p hp)) ?tn ?fn 4 0 () _ rfl trivial (fun _ h => absurd h List.not_mem_nil) (fun _ _ _ => rfl)
  case tn =>
    rintro i _ u t h tk hi _ F8 N8
    rcases i with _ | _ | _ | _ | i
    · k_steps
      · exfalso
        rename _ ≠ _ => hne
        exact hne rfl
      · unfold Hold
        rename Fr _ _ _ _ => F4
        rename News _ _ _ _ => N4
        rename IsRange _ _ _ _ _ _ _ _ => R4
        with_unfolding_all refine iter_rangeUnr (n := (g0 + 1).toNat) (by rfl) R4 (range_small hg0).1 (range_small hg0).2 F4 N4 ?_
        intro I4 hI4
        refine rr_inv (fun _ => _) (SS.names core) [Str.ofString "nest", Str.ofString "turn"] _ (SS.J core s0) (fun _ _ _ p hp => Nat.ne_of_lt (hI4 p hp)) ?ta0 ?fa0 (g0 + 1).toNat 0 ⟨s0, _⟩ _ (Nat.zero_add _) ⟨hw0, rfl, rfl⟩ (List.forall_mem_cons.mpr ⟨rfl, fun _ h => absurd h List.not_mem_nil⟩) (fun _ _ _ => rfl)
        case ta0 =>
          rintro j ⟨sg2, x⟩ u t h tk hj hJ2 F6 N6
          have hw : WF core sg2 := hJ2.wf
          dsimp only [SS.names] at F6
          k_steps
          rename Fr _ _ _ _ => F7
          rename News _ _ _ _ => N7
          refine ri_end ⟨stripL sg2, _⟩ F7 N7 (fun p hp => hp) (List.forall_mem_cons.mpr ⟨rfl, fun _ h => absurd h List.not_mem_nil⟩) ?rr hJ2.step
          case rr => intro z h2 h3; (simp only [List.contains_cons, List.contains_nil, Bool.or_false, Bool.or_eq_false_iff, beq_eq_false_iff_ne, ne_eq] at h3); (simp [kstB, h3])
        case fa0 =>
          rintro ⟨sg2, x⟩ u h tk hJ2 F6 N6
          have hW9 : 0 ≤ [n0, n1, n2, n3].getD (0 + ((0 : Nat) : Int)).toNat 0 + [(0 : Int), q0, q1, q2, q3].getD (0 + ((0 : Nat) : Int)).toNat 0 ∧ [n0, n1, n2, n3].getD (0 + ((0 : Nat) : Int)).toNat 0 + [(0 : Int), q0, q1, q2, q3].getD (0 + ((0 : Nat) : Int)).toNat 0 ≤ 100 := hv0
          dsimp only [SS.names] at F6
          k_steps
          · exfalso
            rename (_ != _) = true => hb
            rw [bare_end hJ2 hi0 hl0 (by assumption) (by assumption)] at hb
            cases hb
          · rename Fr _ _ _ _ => F7
            rename News _ _ _ _ => N7
            refine ri_end () F7 N7 (fun p hp => .tail _ (.tail _ hp)) (fun _ h => absurd h List.not_mem_nil) ?rr2 trivial
            case rr2 => intro z h2 h3; (simp only [List.contains_cons, List.contains_nil, Bool.or_false, Bool.or_eq_false_iff, beq_eq_false_iff_ne, ne_eq] at h3); (simp [kstB, h3])
    · k_steps
      · exfalso
        rename _ ≠ _ => hne
        exact hne rfl
      · unfold Hold
        rename Fr _ _ _ _ => F4
        rename News _ _ _ _ => N4
        rename IsRange _ _ _ _ _ _ _ _ => R4
        with_unfolding_all refine iter_rangeUnr (n := (g1 + 1).toNat) (by rfl) R4 (range_small hg1).1 (range_small hg1).2 F4 N4 ?_
        intro I4 hI4
        refine rr_inv (fun _ => _) (SS.names core) [Str.ofString "nest", Str.ofString "turn"] _ (SS.J core s1) (fun _ _ _ p hp => Nat.ne_of_lt (hI4 p hp)) ?ta1 ?fa1 (g1 + 1).toNat 0 ⟨s1, _⟩ _ (Nat.zero_add _) ⟨hw1, rfl, rfl⟩ (List.forall_mem_cons.mpr ⟨rfl, fun _ h => absurd h List.not_mem_nil⟩) (fun _ _ _ => rfl)
        case ta1 =>
          rintro j ⟨sg2, x⟩ u t h tk hj hJ2 F6 N6
          have hw : WF core sg2 := hJ2.wf
          dsimp only [SS.names] at F6
          k_steps
          rename Fr _ _ _ _ => F7
          rename News _ _ _ _ => N7
          refine ri_end ⟨stripL sg2, _⟩ F7 N7 (fun p hp => hp) (List.forall_mem_cons.mpr ⟨rfl, fun _ h => absurd h List.not_mem_nil⟩) ?rr hJ2.step
          case rr => intro z h2 h3; (simp only [List.contains_cons, List.contains_nil, Bool.or_false, Bool.or_eq_false_iff, beq_eq_false_iff_ne, ne_eq] at h3); (simp [kstB, h3])
        case fa1 =>
          rintro ⟨sg2, x⟩ u h tk hJ2 F6 N6
          have hW9 : 0 ≤ [n0, n1, n2, n3].getD (0 + ((1 : Nat) : Int)).toNat 0 + [(0 : Int), q0, q1, q2, q3].getD (0 + ((1 : Nat) : Int)).toNat 0 ∧ [n0, n1, n2, n3].getD (0 + ((1 : Nat) : Int)).toNat 0 + [(0 : Int), q0, q1, q2, q3].getD (0 + ((1 : Nat) : Int)).toNat 0 ≤ 100 := hv1
          dsimp only [SS.names] at F6
          k_steps
          · exfalso
            rename (_ != _) = true => hb
            rw [bare_end hJ2 hi1 hl1 (by assumption) (by assumption)] at hb
            cases hb
          · rename Fr _ _ _ _ => F7
            rename News _ _ _ _ => N7
            refine ri_end () F7 N7 (fun p hp => .tail _ (.tail _ hp)) (fun _ h => absurd h List.not_mem_nil) ?rr2 trivial
            case rr2 => intro z h2 h3; (simp only [List.contains_cons, List.contains_nil, Bool.or_false, Bool.or_eq_false_iff, beq_eq_false_iff_ne, ne_eq] at h3); (simp [kstB, h3])
    · k_steps
      · exfalso
        rename _ ≠ _ => hne
        exact hne rfl
      · unfold Hold
        rename Fr _ _ _ _ => F4
        rename News _ _ _ _ => N4
        rename IsRange _ _ _ _ _ _ _ _ => R4
        with_unfolding_all refine iter_rangeUnr (n := (g2 + 1).toNat) (by rfl) R4 (range_small hg2).1 (range_small hg2).2 F4 N4 ?_
        intro I4 hI4
        refine rr_inv (fun _ => _) (SS.names core) [Str.ofString "nest", Str.ofString "turn"] _ (SS.J core s2) (fun _ _ _ p hp => Nat.ne_of_lt (hI4 p hp)) ?ta2 ?fa2 (g2 + 1).toNat 0 ⟨s2, _⟩ _ (Nat.zero_add _) ⟨hw2, rfl, rfl⟩ (List.forall_mem_cons.mpr ⟨rfl, fun _ h => absurd h List.not_mem_nil⟩) (fun _ _ _ => rfl)
        case ta2 =>
          rintro j ⟨sg2, x⟩ u t h tk hj hJ2 F6 N6
          have hw : WF core sg2 := hJ2.wf
          dsimp only [SS.names] at F6
          k_steps
          rename Fr _ _ _ _ => F7
          rename News _ _ _ _ => N7
          refine ri_end ⟨stripL sg2, _⟩ F7 N7 (fun p hp => hp) (List.forall_mem_cons.mpr ⟨rfl, fun _ h => absurd h List.not_mem_nil⟩) ?rr hJ2.step
          case rr => intro z h2 h3; (simp only [List.contains_cons, List.contains_nil, Bool.or_false, Bool.or_eq_false_iff, beq_eq_false_iff_ne, ne_eq] at h3); (simp [kstB, h3])
        case fa2 =>
          rintro ⟨sg2, x⟩ u h tk hJ2 F6 N6
          have hW9 : 0 ≤ [n0, n1, n2, n3].getD (0 + ((2 : Nat) : Int)).toNat 0 + [(0 : Int), q0, q1, q2, q3].getD (0 + ((2 : Nat) : Int)).toNat 0 ∧ [n0, n1, n2, n3].getD (0 + ((2 : Nat) : Int)).toNat 0 + [(0 : Int), q0, q1, q2, q3].getD (0 + ((2 : Nat) : Int)).toNat 0 ≤ 100 := hv2
          dsimp only [SS.names] at F6
          k_steps
          · exfalso
            rename (_ != _) = true => hb
            rw [bare_end hJ2 hi2 hl2 (by assumption) (by assumption)] at hb
            cases hb
          · rename Fr _ _ _ _ => F7
            rename News _ _ _ _ => N7
            refine ri_end () F7 N7 (fun p hp => .tail _ (.tail _ hp)) (fun _ h => absurd h List.not_mem_nil) ?rr2 trivial
            case rr2 => intro z h2 h3; (simp only [List.contains_cons, List.contains_nil, Bool.or_false, Bool.or_eq_false_iff, beq_eq_false_iff_ne, ne_eq] at h3); (simp [kstB, h3])
    · k_steps
      · exfalso
        rename _ ≠ _ => hne
        exact hne rfl
      · unfold Hold
        rename Fr _ _ _ _ => F4
        rename News _ _ _ _ => N4
        rename IsRange _ _ _ _ _ _ _ _ => R4
        with_unfolding_all refine iter_rangeUnr (n := (g3 + 1).toNat) (by rfl) R4 (range_small hg3).1 (range_small hg3).2 F4 N4 ?_
        intro I4 hI4
        refine rr_inv (fun _ => _) (SS.names core) [Str.ofString "nest", Str.ofString "turn"] _ (SS.J core s3) (fun _ _ _ p hp => Nat.ne_of_lt (hI4 p hp)) ?ta3 ?fa3 (g3 + 1).toNat 0 ⟨s3, _⟩ _ (Nat.zero_add _) ⟨hw3, rfl, rfl⟩ (List.forall_mem_cons.mpr ⟨rfl, fun _ h => absurd h List.not_mem_nil⟩) (fun _ _ _ => rfl)
        case ta3 =>
          rintro j ⟨sg2, x⟩ u t h tk hj hJ2 F6 N6
          have hw : WF core sg2 := hJ2.wf
          dsimp only [SS.names] at F6
          k_steps
          rename Fr _ _ _ _ => F7
          rename News _ _ _ _ => N7
          refine ri_end ⟨stripL sg2, _⟩ F7 N7 (fun p hp => hp) (List.forall_mem_cons.mpr ⟨rfl, fun _ h => absurd h List.not_mem_nil⟩) ?rr hJ2.step
          case rr => intro z h2 h3; (simp only [List.contains_cons, List.contains_nil, Bool.or_false, Bool.or_eq_false_iff, beq_eq_false_iff_ne, ne_eq] at h3); (simp [kstB, h3])
        case fa3 =>
          rintro ⟨sg2, x⟩ u h tk hJ2 F6 N6
          have hW9 : 0 ≤ [n0, n1, n2, n3].getD (0 + ((3 : Nat) : Int)).toNat 0 + [(0 : Int), q0, q1, q2, q3].getD (0 + ((3 : Nat) : Int)).toNat 0 ∧ [n0, n1, n2, n3].getD (0 + ((3 : Nat) : Int)).toNat 0 + [(0 : Int), q0, q1, q2, q3].getD (0 + ((3 : Nat) : Int)).toNat 0 ≤ 100 := hv3
          dsimp only [SS.names] at F6
          k_steps
          · exfalso
            rename (_ != _) = true => hb
            rw [bare_end hJ2 hi3 hl3 (by assumption) (by assumption)] at hb
            cases hb
          · rename Fr _ _ _ _ => F7
            rename News _ _ _ _ => N7
            refine ri_end () F7 N7 (fun p hp => .tail _ (.tail _ hp)) (fun _ h => absurd h List.not_mem_nil) ?rr2 trivial
            case rr2 => intro z h2 h3; (simp only [List.contains_cons, List.contains_nil, Bool.or_false, Bool.or_eq_false_iff, beq_eq_false_iff_ne, ne_eq] at h3); (simp [kstB, h3])
    · omega
  case fn =>
    rintro _ u h tk _ F8 N8
    exact hQ _ _ u F8 N8
end
end
-- part PL
section
open PySem
noncomputable def fac : Nat → Nat
  | 0 => 1
  | n + 1 => (n + 1) * fac n
noncomputable def chs : Nat → Nat → Nat
  | _, 0 => 1
  | 0, _ + 1 => 0
  | n + 1, k + 1 => chs n k + chs n (k + 1)
theorem chs_zero (n : Nat) : chs n 0 = 1 := by cases n <;> rfl
theorem chs_step : ∀ n k, chs (n + 1) (k + 1) * (k + 1) = chs n k * (n + 1)
  | 0, 0 => rfl
  | 0, k + 1 => by
    show (chs 0 (k + 1) + chs 0 (k + 2)) * (k + 2) = chs 0 (k + 1) * 1
    show (0 + 0) * (k + 2) = 0 * 1
    simp
  | n + 1, 0 => by
    have h := chs_step n 0
    rw [chs_zero] at h
    have h' : chs (n + 1) 1 * 1 = 1 * (n + 1) := h
    show (chs (n + 1) 0 + chs (n + 1) 1) * 1 = chs (n + 1) 0 * (n + 2)
    rw [chs_zero]
    omega
  | n + 1, k + 1 => by
    have h1 := chs_step n k
    have h2 := chs_step n (k + 1)
    have e : chs (n + 1) (k + 1) = chs n k + chs n (k + 1) := rfl
    have e2 : chs (n + 2) (k + 2) = chs (n + 1) (k + 1) + chs (n + 1) (k + 2) := rfl
    show chs (n + 2) (k + 2) * (k + 2) = chs (n + 1) (k + 1) * (n + 2)
    have h2' : chs (n + 1) (k + 2) * (k + 2) = chs n (k + 1) * (n + 1) := h2
    rw [e2, Nat.add_mul, h2', Nat.mul_add (chs (n + 1) (k + 1)) n 2]
    have h3 : chs (n + 1) (k + 1) * (k + 2) = chs (n + 1) (k + 1) * (k + 1) + chs (n + 1) (k + 1) := by rw [Nat.mul_add, Nat.mul_add]; omega
    rw [h3, h1]
    have h4 : chs (n + 1) (k + 1) * n = chs n k * n + chs n (k + 1) * n := by rw [e, Nat.add_mul]
    rw [h4, e, Nat.mul_add (chs n k), Nat.mul_add (chs n (k + 1))]
    omega
theorem chs_le : ∀ n k, chs n k ≤ 2 ^ n
  | 0, 0 => Nat.le_refl _
  | 0, k + 1 => Nat.zero_le _
  | n + 1, 0 => by rw [chs_zero]; exact Nat.one_le_two_pow
  | n + 1, k + 1 => by
    have h1 := chs_le n k
    have h2 := chs_le n (k + 1)
    show chs n k + chs n (k + 1) ≤ 2 ^ (n + 1)
    rw [Nat.pow_succ]; omega
theorem chs_fac (D : Nat) : ∀ x, chs (D + x) x * (fac x * fac D) = fac (D + x)
  | 0 => by rw [chs_zero]; show 1 * (1 * fac D) = fac D; omega
  | x + 1 => by
    have h := chs_step (D + x) x
    have ih := chs_fac D x
    show chs (D + x + 1) (x + 1) * ((x + 1) * fac x * fac D) = (D + x + 1) * fac (D + x)
    rw [Nat.mul_assoc (x + 1), ← Nat.mul_assoc, h, ← ih]
    rw [Nat.mul_comm (chs (D + x) x), Nat.mul_assoc]
def vv (n : Nat) : Nat := n / 3 + n / 9 + n / 27
def tw (d : Nat) : Nat := if d = 2 then 1 else 0
def tt (n : Nat) : Nat := tw (n % 3) + tw (n / 3 % 3) + tw (n / 9 % 3) + tw (n / 27 % 3)
theorem fac_tab : ∀ n, n < 79 → fac n % 3 ^ vv n = 0 ∧ fac n / 3 ^ vv n % 3 = 1 + (vv n + tt n) % 2 := by decide +kernel
theorem fac_parts {n : Nat} (h : n < 79) : ∃ u, fac n = 3 ^ vv n * u ∧ u % 3 = 1 + (vv n + tt n) % 2 := by
  obtain ⟨h1, h2⟩ := fac_tab n h
  refine ⟨fac n / 3 ^ vv n, ?_, h2⟩
  have := Nat.div_add_mod (fac n) (3 ^ vv n)
  omega
theorem three_div {U : Nat} (hU : U % 3 ≠ 0) : ∀ S k w, w * U = 3 ^ S * k → ∃ y, w = 3 ^ S * y
  | 0, k, w, h => ⟨w, by omega⟩
  | S + 1, k, w, h => by
    obtain ⟨y, rfl⟩ : ∃ y, w = 3 * y := by
      have h3 : (w * U) % 3 = 0 := by rw [h, Nat.pow_succ, Nat.mul_comm (3 ^ S) 3, Nat.mul_assoc, Nat.mul_mod_right]
      rw [Nat.mul_mod] at h3
      have a : w % 3 < 3 := Nat.mod_lt _ (by decide)
      have b : U % 3 < 3 := Nat.mod_lt _ (by decide)
      have hw : w % 3 = 0 := by
        have : ∀ x, x < 3 → ∀ y, y < 3 → y ≠ 0 → x * y % 3 = 0 → x = 0 := by decide
        exact this _ a _ b hU h3
      exact ⟨w / 3, by omega⟩
    have h2 : y * U = 3 ^ S * k := by
      rw [Nat.pow_succ, Nat.mul_comm (3 ^ S) 3, Nat.mul_assoc, Nat.mul_assoc] at h
      exact Nat.eq_of_mul_eq_mul_left (by decide) h
    obtain ⟨z, rfl⟩ := three_div hU S k y h2
    exact ⟨z, by rw [Nat.pow_succ, Nat.mul_comm (3 ^ S) 3, Nat.mul_assoc]⟩
/-- the law on plain numbers -/
theorem kummer {a b c S T : Nat} (ha : a < 27) (hb : b < 27) (hc : c < 27) (hS : vv (a + b + c) = vv a + vv b + vv c + S) (hT : T = tt (a + b + c) + (tt a + tt b + tt c)) :
    ∃ y, chs a a * chs (a + b) b * chs (a + b + c) c = 3 ^ S * y ∧ y % 3 = 1 + (S + T) % 2 := by
  obtain ⟨ua, ea, ra⟩ := fac_parts (n := a) (by omega)
  obtain ⟨ub, eb, rb⟩ := fac_parts (n := b) (by omega)
  obtain ⟨uc, ec, rc⟩ := fac_parts (n := c) (by omega)
  obtain ⟨un, en, rn⟩ := fac_parts (n := a + b + c) (by omega)
  have h1 := chs_fac 0 a
  have h2 := chs_fac a b
  have h3 := chs_fac (a + b) c
  rw [Nat.zero_add] at h1
  have e0 : fac 0 = 1 := rfl
  rw [e0, Nat.mul_one] at h1
  generalize hw : chs a a * chs (a + b) b * chs (a + b + c) c = W
  have hW : W * (fac a * fac b * fac c) = fac (a + b + c) := by
    rw [← hw, ← h3, ← h2]
    have : chs a a = 1 := by
      have hp : 0 < fac a := by rw [ea]; exact Nat.mul_pos (Nat.pow_pos (by decide)) (by omega)
      exact Nat.eq_of_mul_eq_mul_right hp (by rw [h1, Nat.one_mul])
    rw [this, Nat.one_mul]
    simp only [Nat.mul_assoc, Nat.mul_comm, Nat.mul_left_comm]
  rw [ea, eb, ec, en, hS] at hW
  have hW2 : W * (ua * ub * uc) = 3 ^ S * un := by
    have hp : 0 < 3 ^ (vv a + vv b + vv c) := Nat.pow_pos (by decide)
    refine Nat.eq_of_mul_eq_mul_left hp ?_
    rw [← Nat.mul_assoc (3 ^ (vv a + vv b + vv c)) (3 ^ S), ← Nat.pow_add, ← hW, Nat.pow_add, Nat.pow_add]
    simp only [Nat.mul_assoc, Nat.mul_comm, Nat.mul_left_comm]
  have rU : (ua * ub * uc) % 3 = 1 + (vv a + tt a + (vv b + tt b) + (vv c + tt c)) % 2 := by
    rw [Nat.mul_mod, Nat.mul_mod ua ub, ra, rb, rc]
    generalize vv a + tt a = A at *
    generalize vv b + tt b = B at *
    generalize vv c + tt c = C at *
    have : ∀ x, x < 2 → ∀ y, y < 2 → ∀ z, z < 2 → ((1 + x) * (1 + y) % 3 % 3) * ((1 + z) % 3) % 3 = 1 + (x + y + z) % 2 := by decide
    have := this (A % 2) (Nat.mod_lt _ (by decide)) (B % 2) (Nat.mod_lt _ (by decide)) (C % 2) (Nat.mod_lt _ (by decide))
    have hC : (1 + C % 2) % 3 = 1 + C % 2 := by omega
    rw [hC] at this
    rw [Nat.mod_mod] at this
    rw [this]
    omega
  obtain ⟨y, hy⟩ := three_div (by omega) S un W hW2
  refine ⟨y, hy, ?_⟩
  have hyU : y * (ua * ub * uc) = un := by
    rw [hy, Nat.mul_assoc] at hW2
    exact Nat.eq_of_mul_eq_mul_left (Nat.pow_pos (by decide)) hW2
  have hm : (y * (ua * ub * uc)) % 3 = un % 3 := by rw [hyU]
  rw [Nat.mul_mod, rU, rn] at hm
  have key : ∀ x, x < 3 → ∀ p, p < 2 → ∀ q, q < 2 → x * (1 + p) % 3 = 1 + q → x = 1 + (p + q) % 2 := by decide
  have := key _ (Nat.mod_lt y (by decide)) _ (Nat.mod_lt _ (by decide)) _ (Nat.mod_lt _ (by decide)) hm
  rw [this]
  omega
end
-- part LA
section
open PySem PySem.Calls PyProof.Rows PySem.W
section
theorem cnt4 {prog : Program} {w : World} {A : Around} {E : Value → Shared → Prop} {s : Shared} {h₀ : Heap} {L D : Addr} {news : List (Addr × Obj)} {a b c d k : Int} {ta tb tc td t : Tok} {Q : Value → Shared → Prop} (N : News h₀ L s.heap news)
    (hm : (D, LCg.lst [.int a ta, .int b tb, .int c tc, .int d td]) ∈ news) (h : Q (.int (([a, b, c, d].count k : Nat) : Int) s.toks) { s with toks := s.toks + 1 }) :
    wpAny (model prog w) A (call (.builtin "list.count") [.ref D, .int k t]) Q E s :=
  count_list_ints (vs := [.int a ta, .int b tb, .int c tc, .int d td]) ⟨_, N.get hm, rfl, _, rfl⟩ (.cons _ _ (.cons _ _ (.cons _ _ (.cons _ _ .nil)))) h
theorem pow_T {prog : Program} {w : World} {A : Around} {E : Value → Shared → Prop} {s : Shared} {Q : Value → Shared → Prop} {n : Int} {t u : Tok} (hn : 0 ≤ n ∧ n ≤ 100)
    (h : ∀ T : Int, T = 3 ^ n.toNat → T ≠ 0 → T.natAbs.log2 < 9000 → Q (.int T s.toks) { s with toks := s.toks + 1 }) :
    wpAny (model prog w) A (binaryOp .Pow (.int 3 t) (.int n u)) Q E s := by
  have hl : ∀ k, k ≤ 100 → ((3 : Int) ^ k) ≠ 0 ∧ ((3 : Int) ^ k).natAbs.log2 < 9000 := by decide +kernel
  have := hl n.toNat (by omega)
  refine pow_int hn.1 ?_ (h _ rfl this.1 this.2)
  have : Builtin.Int.intBits 3 = 2 := by decide +kernel
  rw [this]; omega
theorem linesLA : True := by
  w_top off
  k_with_none
  k_with "getMethod ref" => ((with_reducible show wpAny _ _ (getMethod (Value.ref _) (Str.ofString "count") _) _ _ _); with_unfolding_all refine getMethod_list_of PySem.F.slot_list_count PySem.F.type_list_count (by is_list) (by no_dict) ?_)
  k_with "eval Name" => (k_here; k_dflt (refine' nameX_L ?F ?v ?_ ?a ?b; (case F => k_asm); (case a => rfl); (case b => rfl); (case v => rfl); k_whole))
  k_with "callWith ref" => (k_here; k_dflt (refine' callWith_K ?k1 ?k2 ?_; (case k1 => k_asm); (case k2 => k_is); k_whole))
  k_with "exec For Name Call cons nil" => (k_here; (with_unfolding_all refine' For_invVF (hE := ?hE) ?kF ?k1 ?k2 ?_; (case kF => k_asm); (case hE => first | assumption | passes_own); (case k1 => exact rfl); (case k2 => exact rfl); k_whole))
  k_with "exec For Name Name cons nil" => (k_here; (with_unfolding_all refine' For_invVF (hE := ?hE) ?kF ?k1 ?k2 ?_; (case kF => k_asm); (case hE => first | assumption | passes_own); (case k1 => exact rfl); (case k2 => exact rfl); k_whole))
  k_with "pyIter ref" => ((with_reducible show wpAny _ _ (pyIter (Value.ref _)) (fun it s₂ => LoopAtV _ _ _ _ _ _ _ _ _ it s₂) _ _); refine Hold.out ?_)
  k_with "RiPost" => (dsimp only [RiPost])
  k_with "LiPost" => (dsimp only [LiPost])
  k_with "call builtin:list.count" => (k_here; (with_reducible show wpAny _ _ (call (Value.builtin "list.count") [Value.ref _, Value.int _ _]) _ _ _); k_dflt (refine cnt4 (by k_asm) (by k_mem) ?_))
  k_with "binaryOp Pow int int" => (k_here; (with_reducible show wpAny _ _ (binaryOp Operator.Pow (Value.int 3 _) (Value.int _ _)) _ _ _); k_dflt (refine pow_T (by assumption) ?_); intro _ _ _ _)
  k_with "binaryOp FloorDiv int int" => (k_here; (with_reducible refine floordiv_int (by assumption) ?_ (Or.inl (PyProof.noPylong_of_log2 (by assumption)))))
  k_with "binaryOp Mod int int" => (k_here; (with_reducible refine mod_int' (by assumption) ?_))
  k_with "CompSrc" => (k_here; k_dflt (first | (refine LCg.CompSrc.ledger (by rfl) (by k_asm) (by k_asm) (by k_mem) (by rw [sizeLine_eq]; decide) ?_; intro g'; lcg_lit)))
  k_with "CompEnd" => k_dflt (refine LCg.CompEnd.intro (by assumption) (by assumption) _ (fun p hp => hp) (by first | assumption | (simp only [LCg.Off3, and_true]; assumption)) (by lcg_src) ?_)
  trivial
/-- the state of the two loops over the ways -/
structure YS where
  wv : Int
  dv : Int
  t : Tok
  u : Tok
def YS.names (c : YS) : List (Str × Value) := [(Str.ofString "ways", .int c.wv c.t), (Str.ofString "dealt", .int c.dv c.u)]
noncomputable def multi (l : List Nat) : Nat → Nat
  | 0 => 1
  | i + 1 => multi l i * chs ((l.take (i + 1)).sum) (l.getD i 0)
structure YS.J (l : List Nat) (i : Nat) (c : YS) : Prop where
  d : c.dv = (((l.take i).sum : Nat) : Int)
  w : c.wv = ((multi l i : Nat) : Int)
structure YS.K (D M : Nat) (j : Nat) (c : YS) : Prop where
  d : c.dv = ((D + j : Nat) : Int)
  w : c.wv = ((M * chs (D + j) j : Nat) : Int)
theorem YS.K.step {D M j : Nat} {c : YS} (h : YS.K D M j c) {t u : Tok} : YS.K D M (j + 1) ⟨(c.wv * (c.dv + 1)).fdiv (1 + (j : Int)), c.dv + 1, t, u⟩ := by
  refine ⟨?_, ?_⟩
  · show c.dv + 1 = _
    rw [h.d]; omega
  · show (c.wv * (c.dv + 1)).fdiv (1 + (j : Int)) = _
    rw [h.d, h.w]
    have e1 : (((D + j : Nat) : Int) + 1) = ((D + j + 1 : Nat) : Int) := by omega
    have e2 : (1 + (j : Int)) = ((j + 1 : Nat) : Int) := by omega
    rw [e1, e2, ← Int.natCast_mul, Int.fdiv_eq_ediv_of_nonneg _ (by omega), ← Int.natCast_ediv]
    congr 1
    have := chs_step (D + j) j
    rw [Nat.mul_assoc, ← this, ← Nat.mul_assoc, Nat.mul_div_cancel _ (Nat.succ_pos j)]
    rfl
theorem range_one {n : Nat} (h : n < 27) : Builtin.Range.small 1 ((n : Int) + 1) 1 = true ∧ Builtin.Range.rangeSize 1 ((n : Int) + 1) 1 = (n : Int) := by
  have : ∀ k : Nat, k < 27 → Builtin.Range.small 1 ((k : Int) + 1) 1 = true ∧ Builtin.Range.rangeSize 1 ((k : Int) + 1) 1 = (k : Int) := by decide
  exact this n h
set_option maxHeartbeats 8000000 in
theorem law_rest11 (w : World) (mean : ExcName → Option Value) (mg mb : Str → Option Value) (loose : List Str) (base : Heap) (L fa : Addr) (cd : Value) (s : Shared) (m : Str → Option Value) (Q : Flow → Shared → Prop) (E : Value → Shared → Prop)
    (A B C : Nat) (a0 a1 a2 a3 b0 b1 b2 b3 c0 c1 c2 c3 g0 g1 g2 g3 q0 q1 q2 q3 : Int) (ta tb tc u0 u1 u2 u3 v0 v1 v2 v3 w0 w1 w2 w3 y0 y1 y2 y3 z0 z1 z2 z3 : Tok) (k9 : Nat) (Df R0 R1 R2 Ds dl cl : Addr) (o8 : Obj) (ps : Array Value)
    (hB : Below callerA base [] base) (hX : (hd.heap_39 w.params).In base) (hT : Top topProg loose mean mg mb base)
    (hF : Fr base L s.heap (fun y => if y = Str.ofString "carries" then some (.ref cl) else if y = Str.ofString "left" then some (.ref dl) else if y = Str.ofString "shares" then some (.ref Ds) else m y))
    (h8 : o8.data = .cell (some (.ref Df)))
    (hN : News base L s.heap [(Ds, LCg.lst [.int A ta, .int B tb, .int C tc]), (dl, LCg.lst [.int g0 y0, .int g1 y1, .int g2 y2, .int g3 y3]), (cl, W.listOf #[.int q0 z0, .int q1 z1, .int q2 z2, .int q3 z3] k9), (Df, LCg.lst [.ref R0, .ref R1, .ref R2]),
      (R0, LCg.lst [.int a0 u0, .int a1 u1, .int a2 u2, .int a3 u3]), (R1, LCg.lst [.int b0 v0, .int b1 v1, .int b2 v2, .int b3 v3]), (R2, LCg.lst [.int c0 w0, .int c1 w1, .int c2 w2, .int c3 w3]), (L + 1, o8), (45, tabObj ps)])
    (hA : A < 27) (hB2 : B < 27) (hC2 : C < 27) (hq : 0 ≤ q0 + (q1 + (q2 + (q3 + 0))) ∧ q0 + (q1 + (q2 + (q3 + 0))) ≤ 100)
    (hlaw : ∀ T : Int, T = 3 ^ (q0 + (q1 + (q2 + (q3 + 0)))).toNat → ((multi [A, B, C] 3 : Nat) : Int).fmod T = 0 ∧ ((((multi [A, B, C] 3 : Nat) : Int).fdiv T).fmod 3 = 1 + (q0 + (q1 + (q2 + (q3 + 0))) + ((([g0, g1, g2, g3].count 2 : Nat) : Int) + ((([a0, a1, a2, a3].count 2 : Nat) : Int) + ((([b0, b1, b2, b3].count 2 : Nat) : Int) + ((([c0, c1, c2, c3].count 2 : Nat) : Int) + 0))))).fmod 2))
    (hE : PassesOwn (model PySem.Challenge.rw_wb0014_01.row.prog w) (callerA.deeper (envOfC (Str.ofString "law") lawScope L fa cd)) (envOfC (Str.ofString "law") lawScope L fa cd) E)
    (hQ : ∀ h' tk' m', Fr base L h' m' → GrownAt 45 h' → Q (.ret (.bool true)) { s with heap := h', toks := tk' }) :
    wpAny (model PySem.Challenge.rw_wb0014_01.row.prog w) (callerA.deeper (envOfC (Str.ofString "law") lawScope L fa cd)) (execs (lawBody.drop 11) (envOfC (Str.ofString "law") lawScope L fa cd)) Q E s := by
  revert hX
  k_fill
  intro hX
  with_unfolding_all show wpAny _ (callerA.deeper (envOfC (Str.ofString "law") (Scope.mk _ _ _ _ _) L fa cd)) (execs (_ :: _) (envOfC (Str.ofString "law") (Scope.mk _ _ _ _ _) L fa cd)) Q E s
  k_steps
  unfold Hold
  rename Fr _ _ _ _ => F2
  rename News _ _ _ _ => N2
  with_unfolding_all refine iter_listUnr (vs := [_, _, _]) (by rfl) F2 N2 (List.Mem.head _) (by rfl) (by rfl) ?_
  intro I hI
  refine lr_inv (fun _ => _) YS.names [Str.ofString "ways", Str.ofString "dealt", Str.ofString "x", Str.ofString "i"] _ (YS.J [A, B, C]) [_, _, _] ?off ?turn ?fin [_, _, _] 0 ⟨1, 0, _, _⟩ _ rfl (Nat.zero_le _) ⟨rfl, rfl⟩ (List.forall_mem_cons.mpr ⟨rfl, List.forall_mem_cons.mpr ⟨rfl, fun _ h => absurd h List.not_mem_nil⟩⟩) (fun _ _ _ => rfl)
  case off => intro i c hJ p hp; exact Nat.ne_of_lt (hI p hp)
  case turn =>
    rintro i v ⟨wv, dv, t, u⟩ u2 it h tk hv hJ hit F8 N8
    obtain ⟨X, t9, rfl, hX27, hsum, hgd⟩ : ∃ (X : Nat) (t9 : Tok), v = .int X t9 ∧ X < 27 ∧ (([A, B, C].take (i + 1)).sum = ([A, B, C].take i).sum + X) ∧ [A, B, C].getD i 0 = X := by
      rcases i with _ | _ | _ | i
      · cases hv; exact ⟨A, _, rfl, hA, by simp, rfl⟩
      · cases hv; exact ⟨B, _, rfl, hB2, by simp, rfl⟩
      · cases hv; exact ⟨C, _, rfl, hC2, by simp; omega, rfl⟩
      · cases hv
    have hDl : ([A, B, C].take i).sum ≤ 80 := by
      rcases i with _ | _ | _ | i <;> simp <;> omega
    have hd := hJ.d
    have hw := hJ.w
    obtain ⟨D, hDD⟩ : ∃ D, ([A, B, C].take i).sum = D := ⟨_, rfl⟩
    obtain ⟨M, hMM⟩ : ∃ M, multi [A, B, C] i = M := ⟨_, rfl⟩
    dsimp only [YS.names] at F8
    dsimp only at hd hw
    rw [hDD] at hd hsum hDl
    rw [hMM] at hw
    k_steps
    unfold Hold
    rename Fr _ _ _ _ => F4
    rename News _ _ _ _ => N4
    rename IsRange _ _ _ _ _ _ _ _ => R4
    with_unfolding_all refine iter_rangeUnr (n := X) (by rfl) R4 (range_one hX27).1 ((range_one hX27).2) F4 N4 ?_
    intro I2 hI2
    refine rr_inv (fun _ => _) YS.names [Str.ofString "ways", Str.ofString "dealt", Str.ofString "i"] _ (YS.K D M) (fun _ _ _ p hp => Nat.ne_of_lt (hI2 p hp)) ?tu ?fi X 0 ⟨wv, dv, t, u⟩ _ (Nat.zero_add _) ⟨hd, by rw [chs_zero, Nat.mul_one]; exact hw⟩ (List.forall_mem_cons.mpr ⟨rfl, List.forall_mem_cons.mpr ⟨rfl, fun _ h => absurd h List.not_mem_nil⟩⟩) (fun _ _ _ => rfl)
    case tu =>
      rintro j ⟨wv, dv, t, u⟩ u2 t h tk hj hJ2 F6 N6
      have hj0 : (1 + (j : Int)) ≠ 0 := by omega
      have hjl : (1 + (j : Int)).natAbs.log2 < 9000 := by
        have : ∀ k : Nat, k < 27 → (1 + (k : Int)).natAbs.log2 < 9000 := by decide
        exact this j (by omega)
      have hd2 : dv = ((D + j : Nat) : Int) := hJ2.d
      have hfit : IntMulOk wv (dv + 1) := by
        refine IntMulOk.of_right ?_
        have : ∀ k : Nat, k < 120 → Builtin.Int.intBits ((k : Int) + 1) ≤ 64 := by decide +kernel
        rw [hd2]
        exact this (D + j) (by omega)
      dsimp only [YS.names] at F6
      k_steps
      rename Fr _ _ _ _ => F7
      rename News _ _ _ _ => N7
      refine ri_end ⟨(wv * (dv + 1)).fdiv (1 + (j : Int)), dv + 1, _, _⟩ F7 N7 (fun p hp => hp) (List.forall_mem_cons.mpr ⟨rfl, List.forall_mem_cons.mpr ⟨rfl, fun _ h => absurd h List.not_mem_nil⟩⟩) ?rr hJ2.step
      case rr => intro z h2 h3; (simp only [List.contains_cons, List.contains_nil, Bool.or_false, Bool.or_eq_false_iff, beq_eq_false_iff_ne, ne_eq] at h3); (simp [kstB, h3])
    case fi =>
      rintro ⟨wv, dv, t, u⟩ u2 h tk hJ2 F6 N6
      dsimp only [YS.names] at F6
      k_steps
      rename Fr _ _ _ _ => F7
      rename News _ _ _ _ => N7
      have e1 : dv = ((D + X : Nat) : Int) := hJ2.d
      have e2 : wv = ((M * chs (D + X) X : Nat) : Int) := hJ2.w
      refine li_end ⟨wv, dv, _, _⟩ F7 N7 (fun p hp => hp) (List.forall_mem_cons.mpr ⟨rfl, List.forall_mem_cons.mpr ⟨rfl, fun _ h => absurd h List.not_mem_nil⟩⟩) ?rr ⟨by rw [hsum]; exact e1, by show wv = ((multi [A, B, C] i * chs (([A, B, C].take (i + 1)).sum) ([A, B, C].getD i 0) : Nat) : Int); rw [hsum, hgd, hMM]; exact e2⟩
      case rr => intro z h2 h3; (simp only [List.contains_cons, List.contains_nil, Bool.or_false, Bool.or_eq_false_iff, beq_eq_false_iff_ne, ne_eq] at h3); (simp [kstB, h3])
  case fin =>
    rintro ⟨wv, dv, t, u⟩ u2 h tk hJ F N
    dsimp only [YS.names] at F
    have hw : wv = ((multi [A, B, C] 3 : Nat) : Int) := hJ.w
    k_steps
    · rename _ = (3 : Int) ^ _ => hT
      rename Fr _ _ _ _ => F9
      rename News _ _ _ _ => N9
      obtain ⟨l1, l2⟩ := hlaw _ hT
      rw [← hw] at l1 l2
      rw [l2, beq_self_eq_true]
      exact hQ _ _ _ F9 (GrownAt.of N9 (by k_mem))
    · exfalso
      rename _ = (3 : Int) ^ _ => hT
      rename _ ≠ (0 : Int) => hne
      obtain ⟨l1, l2⟩ := hlaw _ hT
      rw [← hw] at l1
      exact hne l1
end
end
-- part PL2
section
open PySem
theorem tw_count : ∀ d0, d0 < 3 → ∀ d1, d1 < 3 → ∀ d2, d2 < 3 → ∀ d3, d3 < 3 → tw d0 + tw d1 + tw d2 + tw d3 = [((d0 : Nat) : Int), (d1 : Nat), (d2 : Nat), (d3 : Nat)].count 2 := by decide
theorem tt_count {n : Nat} {d0 d1 d2 d3 : Int} (z0 : 0 ≤ d0 ∧ d0 ≤ 2) (z1 : 0 ≤ d1 ∧ d1 ≤ 2) (z2 : 0 ≤ d2 ∧ d2 ≤ 2) (z3 : 0 ≤ d3 ∧ d3 ≤ 2) (e : (n : Int) = d0 + 3 * d1 + 9 * d2 + 27 * d3) : [d0, d1, d2, d3].count 2 = tt n := by
  obtain ⟨e0, rfl⟩ := Int.eq_ofNat_of_zero_le z0.1
  obtain ⟨e1, rfl⟩ := Int.eq_ofNat_of_zero_le z1.1
  obtain ⟨e2, rfl⟩ := Int.eq_ofNat_of_zero_le z2.1
  obtain ⟨e3, rfl⟩ := Int.eq_ofNat_of_zero_le z3.1
  rw [← tw_count e0 (by omega) e1 (by omega) e2 (by omega) e3 (by omega)]
  unfold tt
  rw [show n % 3 = e0 from by omega, show n / 3 % 3 = e1 from by omega, show n / 9 % 3 = e2 from by omega, show n / 27 % 3 = e3 from by omega]
theorem vv_digits {n : Nat} {d0 d1 d2 d3 : Int} (z0 : 0 ≤ d0 ∧ d0 ≤ 2) (z1 : 0 ≤ d1 ∧ d1 ≤ 2) (z2 : 0 ≤ d2 ∧ d2 ≤ 2) (z3 : 0 ≤ d3 ∧ d3 ≤ 2) (e : (n : Int) = d0 + 3 * d1 + 9 * d2 + 27 * d3) : ((vv n : Nat) : Int) = d1 + 4 * d2 + 13 * d3 := by
  have h1 : ((n / 3 : Nat) : Int) = d1 + 3 * d2 + 9 * d3 := by omega
  have h2 : ((n / 9 : Nat) : Int) = d2 + 3 * d3 := by omega
  have h3 : ((n / 27 : Nat) : Int) = d3 := by omega
  unfold vv
  rw [Int.natCast_add, Int.natCast_add, h1, h2, h3]; omega
theorem div3 {x q : Int} (h : q = x / 3) : 3 * q ≤ x ∧ x < 3 * q + 3 := by omega
structure Carry (n0 n1 n2 q0 q1 q2 q3 g0 g1 g2 g3 : Int) : Prop where
  zq0 : 0 ≤ q0 ∧ q0 ≤ 2
  zq1 : 0 ≤ q1 ∧ q1 ≤ 2
  zq2 : 0 ≤ q2 ∧ q2 ≤ 2
  zq3 : q3 = 0
  zg0 : 0 ≤ g0 ∧ g0 ≤ 2
  zg1 : 0 ≤ g1 ∧ g1 ≤ 2
  zg2 : 0 ≤ g2 ∧ g2 ≤ 2
  zg3 : 0 ≤ g3 ∧ g3 ≤ 2
  e : g0 + 3 * g1 + 9 * g2 + 27 * g3 = n0 + 3 * n1 + 9 * n2
  v : g1 + 4 * g2 + 13 * g3 = n1 + 4 * n2 + (q0 + (q1 + (q2 + (q3 + 0))))
theorem carry_of {n0 n1 n2 n3 g0 g1 g2 g3 q0 q1 q2 q3 : Int} (b0 : 0 ≤ n0 ∧ n0 ≤ 6) (b1 : 0 ≤ n1 ∧ n1 ≤ 6) (b2 : 0 ≤ n2 ∧ n2 ≤ 6) (b3 : n3 = 0)
    (hq0 : q0 = n0 / 3) (hq1 : q1 = (n1 + q0) / 3) (hq2 : q2 = (n2 + q1) / 3) (hq3 : q3 = (n3 + q2) / 3) (hg0 : g0 = n0 - 3 * q0 + q3) (hg1 : g1 = n1 + q0 - 3 * q1) (hg2 : g2 = n2 + q1 - 3 * q2) (hg3 : g3 = n3 + q2 - 3 * q3) : Carry n0 n1 n2 q0 q1 q2 q3 g0 g1 g2 g3 := by
  have d0 := div3 hq0
  have d1 := div3 hq1
  have d2 := div3 hq2
  have d3 := div3 hq3
  clear hq0 hq1 hq2 hq3
  have e0 : 0 ≤ q0 ∧ q0 ≤ 2 := by clear d1 d2 d3 hg0 hg1 hg2 hg3; omega
  have e1 : 0 ≤ q1 ∧ q1 ≤ 2 := by clear d0 d2 d3 hg0 hg1 hg2 hg3; omega
  have e2 : 0 ≤ q2 ∧ q2 ≤ 2 := by clear d0 d1 d3 hg0 hg1 hg2 hg3; omega
  have e3 : q3 = 0 := by clear d0 d1 d2 hg0 hg1 hg2 hg3; omega
  subst e3 b3 hg0 hg1 hg2 hg3
  exact ⟨e0, e1, e2, rfl, by omega, by omega, by omega, by omega, by omega, by omega⟩
theorem sum3 {x y z n : Int} (a : 0 ≤ x ∧ x ≤ 2) (b : 0 ≤ y ∧ y ≤ 2) (c : 0 ≤ z ∧ z ≤ 2) (h : n = x + (y + (z + 0))) : 0 ≤ n ∧ n ≤ 6 := by omega
theorem sumz {n : Int} (h : n = 0 + (0 + (0 + 0))) : n = 0 := by omega
theorem dig27 {A : Nat} {x y z : Int} (h : (A : Int) = x + 3 * y + 9 * z) : (A : Int) = x + 3 * y + 9 * z + 27 * 0 := by omega
theorem lt27 {A : Nat} {x y z : Int} (a : 0 ≤ x ∧ x ≤ 2) (b : 0 ≤ y ∧ y ≤ 2) (c : 0 ≤ z ∧ z ≤ 2) (h : (A : Int) = x + 3 * y + 9 * z) : A < 27 := by omega
theorem sum_all {A B C : Nat} {a0 a1 a2 b0 b1 b2 c0 c1 c2 n0 n1 n2 G : Int} (ke : G = n0 + 3 * n1 + 9 * n2) (ae : (A : Int) = a0 + 3 * a1 + 9 * a2) (be : (B : Int) = b0 + 3 * b1 + 9 * b2) (ce : (C : Int) = c0 + 3 * c1 + 9 * c2)
    (h0 : n0 = a0 + (b0 + (c0 + 0))) (h1 : n1 = a1 + (b1 + (c1 + 0))) (h2 : n2 = a2 + (b2 + (c2 + 0))) : ((A + B + C : Nat) : Int) = G := by omega
theorem vv_all {v vA vB vC S : Nat} {a1 a2 b1 b2 c1 c2 n1 n2 G : Int} (x : (v : Int) = G) (xa : (vA : Int) = a1 + 4 * a2 + 13 * 0) (xb : (vB : Int) = b1 + 4 * b2 + 13 * 0) (xc : (vC : Int) = c1 + 4 * c2 + 13 * 0)
    (kv : G = n1 + 4 * n2 + (S : Int)) (h1 : n1 = a1 + (b1 + (c1 + 0))) (h2 : n2 = a2 + (b2 + (c2 + 0))) : v = vA + vB + vC + S := by omega
theorem qsum {q0 q1 q2 q3 : Int} (a : 0 ≤ q0 ∧ q0 ≤ 2) (b : 0 ≤ q1 ∧ q1 ≤ 2) (c : 0 ≤ q2 ∧ q2 ≤ 2) (d : q3 = 0) : 0 ≤ q0 + (q1 + (q2 + (q3 + 0))) := by omega
theorem parity {S t k0 k1 k2 k3 : Nat} (h : t = k0 + (k1 + k2 + k3)) : (((1 + (S + t) % 2 : Nat)) : Int) = 1 + ((S : Int) + ((k0 : Int) + ((k1 : Int) + ((k2 : Int) + ((k3 : Int) + 0))))) % 2 := by subst h; omega
theorem law_plain {A B C : Nat} {a0 a1 a2 a3 b0 b1 b2 b3 c0 c1 c2 c3 n0 n1 n2 n3 g0 g1 g2 g3 q0 q1 q2 q3 : Int}
    (ha : Digs A a0 a1 a2 a3) (hb : Digs B b0 b1 b2 b3) (hc : Digs C c0 c1 c2 c3) (hn0 : n0 = a0 + (b0 + (c0 + 0))) (hn1 : n1 = a1 + (b1 + (c1 + 0))) (hn2 : n2 = a2 + (b2 + (c2 + 0))) (hn3 : n3 = a3 + (b3 + (c3 + 0)))
    (hq0 : q0 = n0 / 3) (hq1 : q1 = (n1 + q0) / 3) (hq2 : q2 = (n2 + q1) / 3) (hq3 : q3 = (n3 + q2) / 3) (hg0 : g0 = n0 - 3 * q0 + q3) (hg1 : g1 = n1 + q0 - 3 * q1) (hg2 : g2 = n2 + q1 - 3 * q2) (hg3 : g3 = n3 + q2 - 3 * q3) :
    ∀ T : Int, T = 3 ^ (q0 + (q1 + (q2 + (q3 + 0)))).toNat → ((multi [A, B, C] 3 : Nat) : Int).fmod T = 0 ∧ ((((multi [A, B, C] 3 : Nat) : Int).fdiv T).fmod 3 = 1 + (q0 + (q1 + (q2 + (q3 + 0))) + ((([g0, g1, g2, g3].count 2 : Nat) : Int) + ((([a0, a1, a2, a3].count 2 : Nat) : Int) + ((([b0, b1, b2, b3].count 2 : Nat) : Int) + ((([c0, c1, c2, c3].count 2 : Nat) : Int) + 0))))).fmod 2) := by
  intro T hT
  obtain ⟨az0, az1, az2, az3, ae⟩ := ha
  obtain ⟨bz0, bz1, bz2, bz3, be⟩ := hb
  obtain ⟨cz0, cz1, cz2, cz3, ce⟩ := hc
  subst az3 bz3 cz3
  have K := carry_of (sum3 az0 bz0 cz0 hn0) (sum3 az1 bz1 cz1 hn1) (sum3 az2 bz2 cz2 hn2) (sumz hn3) hq0 hq1 hq2 hq3 hg0 hg1 hg2 hg3
  clear hq0 hq1 hq2 hq3 hg0 hg1 hg2 hg3 hn3
  obtain ⟨kq0, kq1, kq2, kq3, kg0, kg1, kg2, kg3, ke, kv⟩ := K
  have ae' : (A : Int) = a0 + 3 * a1 + 9 * a2 + 27 * 0 := dig27 ae
  have be' : (B : Int) = b0 + 3 * b1 + 9 * b2 + 27 * 0 := dig27 be
  have ce' : (C : Int) = c0 + 3 * c1 + 9 * c2 + 27 * 0 := dig27 ce
  have hge : ((A + B + C : Nat) : Int) = g0 + 3 * g1 + 9 * g2 + 27 * g3 := sum_all ke ae be ce hn0 hn1 hn2
  obtain ⟨S, hS⟩ := Int.eq_ofNat_of_zero_le (qsum kq0 kq1 kq2 kq3)
  have vA := vv_digits az0 az1 az2 (by decide) ae'
  have vB := vv_digits bz0 bz1 bz2 (by decide) be'
  have vC := vv_digits cz0 cz1 cz2 (by decide) ce'
  have vN := vv_digits kg0 kg1 kg2 kg3 hge
  rw [hS] at kv
  have hv : vv (A + B + C) = vv A + vv B + vv C + S := vv_all vN vA vB vC kv hn1 hn2
  have tA := tt_count az0 az1 az2 (by decide) ae'
  have tB := tt_count bz0 bz1 bz2 (by decide) be'
  have tC := tt_count cz0 cz1 cz2 (by decide) ce'
  have tN := tt_count kg0 kg1 kg2 kg3 hge
  rw [tA, tB, tC, tN]
  obtain ⟨y, hy, hy3⟩ := kummer (a := A) (b := B) (c := C) (S := S) (T := tt (A + B + C) + (tt A + tt B + tt C)) (lt27 az0 az1 az2 ae) (lt27 bz0 bz1 bz2 be) (lt27 cz0 cz1 cz2 ce) hv rfl
  have hm : multi [A, B, C] 3 = 3 ^ S * y := by
    rw [← hy]
    show 1 * chs (A + 0) A * chs (A + (B + 0)) B * chs (A + (B + (C + 0))) C = _
    rw [Nat.add_zero, Nat.add_zero, Nat.add_zero, Nat.one_mul, ← Nat.add_assoc]
  have hT2 : T = ((3 ^ S : Nat) : Int) := by
    rw [hT, hS, Int.natCast_pow]
    rfl
  have hp : 0 < 3 ^ S := Nat.pow_pos (by decide)
  rw [hm, hT2, Int.fmod_eq_emod_of_nonneg _ (Int.natCast_nonneg _), Int.fdiv_eq_ediv_of_nonneg _ (Int.natCast_nonneg _), ← Int.natCast_emod, ← Int.natCast_ediv, Nat.mul_mod_right, Nat.mul_div_cancel_left _ hp, hS, Int.fmod_eq_emod_of_nonneg _ (by decide), Int.fmod_eq_emod_of_nonneg _ (by decide)]
  refine ⟨rfl, ?_⟩
  rw [← parity (t := tt (A + B + C) + (tt A + tt B + tt C)) rfl, ← hy3]
  rfl
end
-- part LS8
section
open PySem PySem.Calls PyProof.Rows PySem.W
section
theorem Fr.put {h₀ h : Heap} {L : Addr} {M : Str → Option Value} {x : Str} {v : Value} (F : Fr h₀ L h M) (e : M x = some v) : Fr h₀ L h (fun y => if y = x then some v else M y) := by
  have : (fun y => if y = x then some v else M y) = M := by
    funext y
    by_cases hy : y = x
    · rw [if_pos hy, hy, e]
    · rw [if_neg hy]
  rw [this]; exact F
theorem News.ne_data {h₀ h : Heap} {L a b : Addr} {o o' : Obj} {news : List (Addr × Obj)} (N : News h₀ L h news) (h1 : (a, o) ∈ news) (h2 : (b, o') ∈ news) (hc : o.data ≠ o'.data) : a ≠ b := by
  intro e
  have a1 := N.get h1
  have a2 := N.get h2
  rw [e, a2] at a1
  exact hc (congrArg Obj.data (Option.some.inj a1)).symm
theorem g9 {g : Int} (h : 0 ≤ g ∧ g ≤ 2) : 0 ≤ g + 1 ∧ g + 1 ≤ 6 := by omega
theorem i9a {i c q n q3 g : Int} (h : i + 3 * c = n) (e : c = q) (hg : g = n - 3 * q + q3) (z : q3 = 0) : i = g := by omega
theorem i9b {i c d q r n g : Int} (h : i + 3 * c = n + d) (e : c = q) (f : d = r) (hg : g = n + r - 3 * q) : i = g := by omega
theorem i9c {i d q r n g : Int} (h : i = n + d) (f : d = r) (z : q = 0) (hg : g = n + r - 3 * q) : i = g := by omega
theorem l9 {l n c q : Int} (h : l = n + c) (e : c = q) : l = n + q := by omega
theorem z9 {l n : Int} (h : l = n) : l = n + 0 := by omega
theorem n6 {n : Int} (h : n = 0) : n ≤ 6 := by omega
theorem cq9 {i : Nat} {c q n : Int} (h : (i : Int) + 3 * c = n) (j : i < 3) (d : 3 * q ≤ n ∧ n < 3 * q + 3) : c = q := by omega
theorem cq9b {i : Nat} {c q n x y : Int} (h : (i : Int) + 3 * c = n + x) (e : x = y) (j : i < 3) (d : 3 * q ≤ n + y ∧ n + y < 3 * q + 3) : c = q := by omega
theorem nn9 {a d0 d1 d2 : Int} (z0 : 0 ≤ d0 ∧ d0 ≤ 2) (z1 : 0 ≤ d1 ∧ d1 ≤ 2) (z2 : 0 ≤ d2 ∧ d2 ≤ 2) (e : a = d0 + 3 * d1 + 9 * d2) : 0 ≤ a := by omega
theorem qs9 {a b c d : Int} (z0 : 0 ≤ a ∧ a ≤ 2) (z1 : 0 ≤ b ∧ b ≤ 2) (z2 : 0 ≤ c ∧ c ≤ 2) (z3 : d = 0) : 0 ≤ a + (b + (c + (d + 0))) ∧ a + (b + (c + (d + 0))) ≤ 100 := by omega
theorem linesLS8 : True := by
  w_top off
  k_with_none
  k_with "call ref" => (k_here; (with_reducible show wpAny _ _ (call (Value.ref 76) _) _ _ _); refine Hold.out ?_)
  k_with "execs cons For cons" => (k_here; (with_reducible show wpAny _ _ (PySem.execs (Stmt.For _ _ _ _ _ :: _) _) _ _ _); refine Hold.out ?_)
  trivial
set_option maxHeartbeats 8000000 in
theorem law_rest8 (w : World) (mean : ExcName → Option Value) (mg mb : Str → Option Value) (loose : List Str) (base : Heap) (L fa : Addr) (cd : Value) (s : Shared) (m : Str → Option Value) (Q : Flow → Shared → Prop) (E : Value → Shared → Prop)
    (a b c' a0 a1 a2 a3 b0 b1 b2 b3 c0 c1 c2 c3 n0 n1 n2 n3 g0 g1 g2 g3 q0 q1 q2 q3 : Int) (core : List Nat) (s0 s1 s2 s3 : List (Option (List Nat))) (tk ta tb tc p0 p1 p2 p3 u0 u1 u2 u3 v0 v1 v2 v3 w0 w1 w2 w3 x0 x1 x2 x3 y0 y1 y2 y3 z0 z1 z2 z3 : Tok) (k k9 : Nat) (Dn Dc Df R0 R1 R2 Ds dl cl : Addr) (o8 : Obj)
    (hB : Below callerA base [] base) (hX : (hd.heap_39 w.params).In base) (hT : Top topProg loose mean mg mb base) (hC : CodeHd base 49 45)
    (hF : Fr base L s.heap (fun y => if y = Str.ofString "nests" then some (.ref Dn) else if y = Str.ofString "core" then some (.str (rend core []) tk) else if y = Str.ofString "carries" then some (.ref cl) else if y = Str.ofString "left" then some (.ref dl) else if y = Str.ofString "chips" then some (.ref Dc) else if y = Str.ofString "shares" then some (.ref Ds) else m y))
    (h8 : o8.data = .cell (some (.ref Df)))
    (hN : News base L s.heap [(Dn, W.listOf #[.str (rend core s0) p0, .str (rend core s1) p1, .str (rend core s2) p2, .str (rend core s3) p3] k), (45, tabObj #[]), (dl, LCg.lst [.int g0 y0, .int g1 y1, .int g2 y2, .int g3 y3]), (cl, W.listOf #[.int q0 z0, .int q1 z1, .int q2 z2, .int q3 z3] k9), (Dc, LCg.lst [.int n0 x0, .int n1 x1, .int n2 x2, .int n3 x3]), (Df, LCg.lst [.ref R0, .ref R1, .ref R2]),
      (R0, LCg.lst [.int a0 u0, .int a1 u1, .int a2 u2, .int a3 u3]), (R1, LCg.lst [.int b0 v0, .int b1 v1, .int b2 v2, .int b3 v3]), (R2, LCg.lst [.int c0 w0, .int c1 w1, .int c2 w2, .int c3 w3]), (Ds, LCg.lst [.int a ta, .int b tb, .int c' tc]), (L + 1, o8)])
    (ha : Digs a a0 a1 a2 a3) (hb : Digs b b0 b1 b2 b3) (hc : Digs c' c0 c1 c2 c3) (hn0 : n0 = a0 + (b0 + (c0 + 0))) (hn1 : n1 = a1 + (b1 + (c1 + 0))) (hn2 : n2 = a2 + (b2 + (c2 + 0))) (hn3 : n3 = a3 + (b3 + (c3 + 0)))
    (hq0 : q0 = n0 / 3) (hq1 : q1 = (n1 + q0) / 3) (hq2 : q2 = (n2 + q1) / 3) (hq3 : q3 = (n3 + q2) / 3) (hg0 : g0 = n0 - 3 * q0 + q3) (hg1 : g1 = n1 + q0 - 3 * q1) (hg2 : g2 = n2 + q1 - 3 * q2) (hg3 : g3 = n3 + q2 - 3 * q3)
    (sw0 : WF core s0) (sw1 : WF core s1) (sw2 : WF core s2) (sw3 : WF core s3) (l0 : (s0.length : Int) = n0) (l1 : (s1.length : Int) = n1) (l2 : (s2.length : Int) = n2) (l3 : (s3.length : Int) = n3) (i0 : (ids s0 : Int) = n0) (i1 : (ids s1 : Int) = n1) (i2 : (ids s2 : Int) = n2) (i3 : (ids s3 : Int) = n3)
    (hE : PassesOwn (model PySem.Challenge.rw_wb0014_01.row.prog w) (callerA.deeper (envOfC (Str.ofString "law") lawScope L fa cd)) (envOfC (Str.ofString "law") lawScope L fa cd) E)
    (hQ : ∀ h' tk' m', Fr base L h' m' → GrownAt 45 h' → Q (.ret (.bool true)) { s with heap := h', toks := tk' }) :
    wpAny (model PySem.Challenge.rw_wb0014_01.row.prog w) (callerA.deeper (envOfC (Str.ofString "law") lawScope L fa cd)) (execs (lawBody.drop 8) (envOfC (Str.ofString "law") lawScope L fa cd)) Q E s := by
  revert hX
  k_fill
  intro hX
  have b0' : 0 ≤ n0 ∧ n0 ≤ 6 := sum3 ha.z0 hb.z0 hc.z0 hn0
  have b1' : 0 ≤ n1 ∧ n1 ≤ 6 := sum3 ha.z1 hb.z1 hc.z1 hn1
  have b2' : 0 ≤ n2 ∧ n2 ≤ 6 := sum3 ha.z2 hb.z2 hc.z2 hn2
  have b3' : n3 = 0 := by rw [hn3, ha.z3, hb.z3, hc.z3]; rfl
  have K := carry_of b0' b1' b2' b3' hq0 hq1 hq2 hq3 hg0 hg1 hg2 hg3
  have hr45 : ∀ p ∈ [(dl, LCg.lst [.int g0 y0, .int g1 y1, .int g2 y2, .int g3 y3]), (cl, W.listOf #[.int q0 z0, .int q1 z1, .int q2 z2, .int q3 z3] k9), (Dc, LCg.lst [.int n0 x0, .int n1 x1, .int n2 x2, .int n3 x3]), (Df, LCg.lst [.ref R0, .ref R1, .ref R2]),
      (R0, LCg.lst [.int a0 u0, .int a1 u1, .int a2 u2, .int a3 u3]), (R1, LCg.lst [.int b0 v0, .int b1 v1, .int b2 v2, .int b3 v3]), (R2, LCg.lst [.int c0 w0, .int c1 w1, .int c2 w2, .int c3 w3]), (Ds, LCg.lst [.int a ta, .int b tb, .int c' tc]), (L + 1, o8)], p.1 ≠ 45 := by
    have key : ∀ (q : Addr) (o : Obj), (q, o) ∈ [(Dn, W.listOf #[.str (rend core s0) p0, .str (rend core s1) p1, .str (rend core s2) p2, .str (rend core s3) p3] k), (45, tabObj #[]), (dl, LCg.lst [.int g0 y0, .int g1 y1, .int g2 y2, .int g3 y3]), (cl, W.listOf #[.int q0 z0, .int q1 z1, .int q2 z2, .int q3 z3] k9), (Dc, LCg.lst [.int n0 x0, .int n1 x1, .int n2 x2, .int n3 x3]), (Df, LCg.lst [.ref R0, .ref R1, .ref R2]),
      (R0, LCg.lst [.int a0 u0, .int a1 u1, .int a2 u2, .int a3 u3]), (R1, LCg.lst [.int b0 v0, .int b1 v1, .int b2 v2, .int b3 v3]), (R2, LCg.lst [.int c0 w0, .int c1 w1, .int c2 w2, .int c3 w3]), (Ds, LCg.lst [.int a ta, .int b tb, .int c' tc]), (L + 1, o8)] → o.data ≠ (tabObj #[]).data → q ≠ 45 := fun q o hq hd => News.ne_data hN hq (.tail _ (.head _)) hd
    refine List.forall_mem_cons.mpr ⟨key _ _ (.tail _ (.tail _ (.head _))) (by intro e; cases e), List.forall_mem_cons.mpr ⟨key _ _ (.tail _ (.tail _ (.tail _ (.head _)))) (by intro e; cases e), List.forall_mem_cons.mpr ⟨key _ _ (.tail _ (.tail _ (.tail _ (.tail _ (.head _))))) (by intro e; cases e), List.forall_mem_cons.mpr ⟨key _ _ (.tail _ (.tail _ (.tail _ (.tail _ (.tail _ (.head _)))))) (by intro e; cases e), List.forall_mem_cons.mpr ⟨key _ _ (.tail _ (.tail _ (.tail _ (.tail _ (.tail _ (.tail _ (.head _))))))) (by intro e; cases e), List.forall_mem_cons.mpr ⟨key _ _ (.tail _ (.tail _ (.tail _ (.tail _ (.tail _ (.tail _ (.tail _ (.head _)))))))) (by intro e; cases e), List.forall_mem_cons.mpr ⟨key _ _ (.tail _ (.tail _ (.tail _ (.tail _ (.tail _ (.tail _ (.tail _ (.tail _ (.head _))))))))) (by intro e; cases e), List.forall_mem_cons.mpr ⟨key _ _ (.tail _ (.tail _ (.tail _ (.tail _ (.tail _ (.tail _ (.tail _ (.tail _ (.tail _ (.head _)))))))))) (by intro e; cases e), List.forall_mem_cons.mpr ⟨key _ _ (.tail _ (.tail _ (.tail _ (.tail _ (.tail _ (.tail _ (.tail _ (.tail _ (.tail _ (.tail _ (.head _))))))))))) (by rw [h8]; intro e; cases e), List.forall_mem_nil _⟩⟩⟩⟩⟩⟩⟩⟩⟩
  with_unfolding_all show wpAny _ (callerA.deeper (envOfC (Str.ofString "law") (Scope.mk _ _ _ _ _) L fa cd)) (execs (_ :: _) (envOfC (Str.ofString "law") (Scope.mk _ _ _ _ _) L fa cd)) Q E s
  k_steps
  unfold Hold
  rename Fr _ _ _ _ => F4
  rename News _ _ _ _ => N4
  refine peeled_ok w mean mg mb loose _ [] #[] core s0 s1 s2 s3 p0 p1 p2 p3 k Dn (.inl ⟨rfl, rfl⟩) hr45 sw0 sw1 sw2 sw3 n0 n1 n2 n3 l0 l1 l2 l3 i0 i1 i2 i3 ⟨b0'.2, b1'.2, b2'.2, n6 b3'⟩ _ _ _ _ _ _ _ _ _ _ base base L _ _ _ _ hB F4 hX N4 hT hC rfl (by decide) (by decide) ?_
  rintro c cl2 D2 h2 tk2 hcN hcI cw0 cw1 cw2 cw3 hct hcf F5 N5
  rcases hct with ⟨_, he⟩ | ⟨ca, oc, vs, vt, hps, hext, hv1, hv2⟩
  · exact absurd he hcf
  have hct : StripTab #[rawInt 27, rawInt 27, .ref ca] [(ca, oc)] := .inr ⟨ca, oc, vs, vt, rfl, rfl, hv1, hv2⟩
  rw [hps, hext] at N5
  simp only [List.cons_append, List.nil_append] at N5
  have ec : [c.c0, c.c1, c.c2, c.c3] = [q0, q1, q2, q3] := by
    obtain ⟨_, h1, h2, h3, h4, h5, h6, h7, z0, z1, z2, z3⟩ := hcN
    obtain ⟨j0, j1, j2⟩ := hcI
    have d0 := div3 hq0
    have d1 := div3 hq1
    have d2 := div3 hq2
    have e3 := K.zq3
    have e0 : c.c0 = q0 := cq9 h4 j0 d0
    have e1 : c.c1 = q1 := cq9b h5 e0 j1 d1
    have e2 : c.c2 = q2 := cq9b h6 e1 j2 d2
    rw [e0, e1, e2, z3, e3]
  k_steps
  unfold Hold
  rename Fr _ _ _ _ => F7
  rename News _ _ _ _ => N7
  have w0l := cw0
  have i0' := hcN.i0
  have i1' := hcN.i1
  have i2' := hcN.i2
  have i3' := hcN.i3
  have l0' := hcN.l0
  have l1' := hcN.l1
  have l2' := hcN.l2
  have l3' := hcN.l3
  obtain ⟨e0, e1, e2, e3⟩ : c.c0 = q0 ∧ c.c1 = q1 ∧ c.c2 = q2 ∧ c.c3 = q3 := by
    simp only [List.cons.injEq, and_true] at ec
    exact ec
  have F8 := Fr.put (x := Str.ofString "chips") (v := .ref Dc) F7 rfl
  have F8 := Fr.put (x := Str.ofString "left") (v := .ref dl) F8 rfl
  have F8 := Fr.put (x := Str.ofString "carries") (v := .ref cl) F8 rfl
  have F8 := Fr.put (x := Str.ofString "core") (v := .str (rend core []) _) F8 rfl
  have F8 := Fr.put (x := Str.ofString "nests") (v := .ref c.l) F8 rfl
  with_unfolding_all refine' law_rest10 (core := core) (fa := fa) (cd := cd) (E := E) (s0 := c.s0) (s1 := c.s1) (s2 := c.s2) (s3 := c.s3) (n0 := n0) (n1 := n1) (n2 := n2) (n3 := n3) (g0 := g0) (g1 := g1) (g2 := g2) (g3 := g3) (q0 := q0) (q1 := q1) (q2 := q2) (q3 := q3) (p0 := c.x0) (p1 := c.x1) (p2 := c.x2) (p3 := c.x3) (ca := ca) (oc := oc) (nl := c.l) (kl := c.kl) (ps := #[rawInt 27, rawInt 27, .ref ca]) (rest := [(Df, LCg.lst [.ref R0, .ref R1, .ref R2]), (R0, LCg.lst [.int a0 u0, .int a1 u1, .int a2 u2, .int a3 u3]), (R1, LCg.lst [.int b0 v0, .int b1 v1, .int b2 v2, .int b3 v3]), (R2, LCg.lst [.int c0 w0, .int c1 w1, .int c2 w2, .int c3 w3]), (Ds, LCg.lst [.int a ta, .int b tb, .int c' tc]), (L + 1, o8)]) (hB := hB) (hX := hX) (hT := hT) (hC := hC) (hF := F8) (hN := ?hN) (hTab := hct) (hr45 := ?hr) (hw0 := cw0) (hw1 := cw1) (hw2 := cw2) (hw3 := cw3) (hi0 := ?a0) (hi1 := ?a1) (hi2 := ?a2) (hi3 := ?a3) (hl0 := ?b0) (hl1 := ?b1) (hl2 := ?b2) (hl3 := ?b3) (hg0 := ?g0) (hg1 := ?g1) (hg2 := ?g2) (hg3 := ?g3) (hE := hE) (hQ := ?hQ)
  case hN => exact kst_newsOf N7 (by lcg_sub)
  case hr =>
    refine List.forall_mem_cons.mpr ⟨News.ne_data (o' := tabObj #[rawInt 27, rawInt 27, .ref ca]) N7 (by k_mem) (by k_mem) (by intro e; cases e), ?_⟩
    exact hr45
  case a0 => exact i9a i0' e0 hg0 K.zq3
  case a1 => exact i9b i1' e1 e0 hg1
  case a2 => exact i9b i2' e2 e1 hg2
  case a3 => exact i9c i3' e2 K.zq3 hg3
  case b0 => exact z9 l0'
  case b1 => exact l9 l1' e0
  case b2 => exact l9 l2' e1
  case b3 => exact l9 l3' e2
  case g0 => exact g9 K.zg0
  case g1 => exact g9 K.zg1
  case g2 => exact g9 K.zg2
  case g3 => exact g9 K.zg3
  case hQ =>
    intro h' tk' u F9 N9
    obtain ⟨A, rfl⟩ := Int.eq_ofNat_of_zero_le (nn9 ha.z0 ha.z1 ha.z2 ha.e)
    obtain ⟨B, rfl⟩ := Int.eq_ofNat_of_zero_le (nn9 hb.z0 hb.z1 hb.z2 hb.e)
    obtain ⟨C, rfl⟩ := Int.eq_ofNat_of_zero_le (nn9 hc.z0 hc.z1 hc.z2 hc.e)
    have F10 := Fr.put (x := Str.ofString "shares") (v := .ref Ds) F9 rfl
    have F10 := Fr.put (x := Str.ofString "left") (v := .ref dl) F10 rfl
    have F10 := Fr.put (x := Str.ofString "carries") (v := .ref cl) F10 rfl
    have hqs : 0 ≤ q0 + (q1 + (q2 + (q3 + 0))) ∧ q0 + (q1 + (q2 + (q3 + 0))) ≤ 100 := qs9 K.zq0 K.zq1 K.zq2 K.zq3
    with_unfolding_all refine' law_rest11 (mean := mean) (mg := mg) (mb := mb) (loose := loose) (A := A) (B := B) (C := C) (fa := fa) (cd := cd) (E := E) (hB := hB) (hX := hX) (hT := hT) (hF := F10) (h8 := h8) (hN := ?hN2) (hA := lt27 ha.z0 ha.z1 ha.z2 ha.e) (hB2 := lt27 hb.z0 hb.z1 hb.z2 hb.e) (hC2 := lt27 hc.z0 hc.z1 hc.z2 hc.e) (hq := hqs) (hlaw := law_plain ha hb hc hn0 hn1 hn2 hn3 hq0 hq1 hq2 hq3 hg0 hg1 hg2 hg3) (hE := hE) (hQ := hQ)
    case hN2 => exact kst_newsOf N9 (by lcg_sub)
end
end
-- part LS6
section
open PySem PySem.Calls PyProof.Rows PySem.W
section
theorem linesLS6 : True := by
  w_top off
  k_with_none
  k_with "eval Name" => (k_here; k_dflt (refine' nameX_L ?F ?v ?_ ?a ?b; (case F => k_asm); (case a => rfl); (case b => rfl); (case v => rfl); k_whole))
  k_with "callWith ref" => (k_here; k_dflt (refine' callWith_K ?k1 ?k2 ?_; (case k1 => k_asm); (case k2 => k_is); k_whole))
  k_with "call ref" => (k_here; (with_reducible show wpAny _ _ (call (Value.ref 62) _) _ _ _); k_dflt (refine' wrapped_c (hlen := ?W) (hB := ?B) (hF := ?F) (hX := ?X) (hN := ?N) (hT := ?T) (hk := ?k) (hdp := ?dp) (hun := ?un) (hret := ?_); (case W => exact WF.len (by assumption)); (case B => k_asm); (case F => k_asm); (case X => k_asm); (case N => k_asm); (case T => k_asm); (case k => exact rfl); (case dp => decide); (case un => decide)); intro _ _ _ _ _; (try dsimp only))
  k_with "exec For Name Call cons nil" => (k_here; (with_unfolding_all refine' For_invVF (hE := ?hE) ?kF ?k1 ?k2 ?_; (case kF => k_asm); (case hE => first | assumption | passes_own); (case k1 => exact rfl); (case k2 => exact rfl); k_whole))
  k_with "pyIter ref" => ((with_reducible show wpAny _ _ (pyIter (Value.ref _)) (fun it s₂ => LoopAtV _ _ _ _ _ _ _ _ _ it s₂) _ _); refine Hold.out ?_)
  k_with "call builtin:list.append" => (k_here; (with_reducible show wpAny _ _ (call (Value.builtin "list.append") [Value.ref _, _]) _ _ _); k_dflt (refine' app_upd (F := ?F) (N := ?N) (U := ?U) (hsz := ?z) (h := ?_); (case F => k_asm); (case N => k_asm); (case U => exact Upd.tail (by assumption) (Upd.head (by assumption))); (case z => assumption)); intro _ _ _; (try dsimp only))
  k_with "RiPost" => (dsimp only [RiPost])
  trivial
structure NS where
  nv : List Value
  sg : List (List (Option (List Nat)))
  k : Nat
def NS.led (Dn : Addr) (rest : List (Addr × Obj)) (c : NS) : List (Addr × Obj) := (Dn, W.listOf c.nv.toArray c.k) :: rest
structure NS.J (core : List Nat) (ns : List Int) (i : Nat) (c : NS) : Prop where
  is : StrsAre c.nv (c.sg.map (rend core))
  len : c.sg.length = i
  wf : ∀ j s, c.sg[j]? = some s → WF core s ∧ (s.length : Int) = ns.getD j 0 ∧ (ids s : Int) = ns.getD j 0
theorem strsApp {vs ws : List Value} {xs ys : List Str} (h : StrsAre vs xs) (h2 : StrsAre ws ys) : StrsAre (vs ++ ws) (xs ++ ys) := by
  induction h with
  | nil => exact h2
  | cons x t _ ih => exact .cons x t ih
theorem NS.J.next {core : List Nat} {ns : List Int} {i : Nat} {c : NS} (h : NS.J core ns i c) {s : List (Option (List Nat))} {x : Tok} {k : Nat} (hs : WF core s ∧ (s.length : Int) = ns.getD i 0 ∧ (ids s : Int) = ns.getD i 0) :
    NS.J core ns (i + 1) ⟨c.nv ++ [.str (rend core s) x], c.sg ++ [s], k⟩ := by
  refine ⟨?_, ?_, ?_⟩
  · show StrsAre (c.nv ++ [.str (rend core s) x]) ((c.sg ++ [s]).map (rend core))
    rw [List.map_append]
    exact strsApp h.is (.cons _ _ .nil)
  · show (c.sg ++ [s]).length = i + 1
    rw [List.length_append, h.len]; rfl
  · intro j s' hj
    have hj : (c.sg ++ [s])[j]? = some s' := hj
    rcases Nat.lt_or_ge j c.sg.length with hl | hl
    · rw [List.getElem?_append_left hl] at hj
      exact h.wf j s' hj
    · rw [List.getElem?_append_right hl] at hj
      obtain ⟨d, hd⟩ : ∃ d, j - c.sg.length = d := ⟨_, rfl⟩
      rw [hd] at hj
      cases d with
      | zero =>
        have e : j = i := by rw [← h.len]; omega
        cases hj
        rw [e]; exact hs
      | succ d => cases hj
theorem strsLen {vs : List Value} {xs : List Str} (h : StrsAre vs xs) : vs.length = xs.length := by
  induction h with
  | nil => rfl
  | cons x t _ ih => rw [List.length_cons, List.length_cons, ih]
theorem strsCons {vs : List Value} {x : Str} {xs : List Str} (h : StrsAre vs (x :: xs)) : ∃ p w, vs = .str x p :: w ∧ StrsAre w xs := by
  cases h with | cons _ p h' => exact ⟨p, _, rfl, h'⟩
theorem strsNil {vs : List Value} (h : StrsAre vs []) : vs = [] := by
  cases h with | nil => rfl
theorem NS.four {core : List Nat} {n0 n1 n2 n3 : Int} {nv : List Value} {sg : List (List (Option (List Nat)))} {k : Nat} (h : NS.J core [n0, n1, n2, n3] 4 ⟨nv, sg, k⟩) :
    ∃ s0 s1 s2 s3 p0 p1 p2 p3, nv = [.str (rend core s0) p0, .str (rend core s1) p1, .str (rend core s2) p2, .str (rend core s3) p3] ∧ (WF core s0 ∧ (s0.length : Int) = n0 ∧ (ids s0 : Int) = n0) ∧ (WF core s1 ∧ (s1.length : Int) = n1 ∧ (ids s1 : Int) = n1) ∧ (WF core s2 ∧ (s2.length : Int) = n2 ∧ (ids s2 : Int) = n2) ∧ (WF core s3 ∧ (s3.length : Int) = n3 ∧ (ids s3 : Int) = n3) := by
  have hl : sg.length = 4 := h.len
  obtain ⟨s0, s1, s2, s3, rfl⟩ : ∃ a b c d, sg = [a, b, c, d] := by
    match sg, hl with
    | [a, b, c, d], _ => exact ⟨a, b, c, d, rfl⟩
  have his : StrsAre nv [rend core s0, rend core s1, rend core s2, rend core s3] := h.is
  have w0 := h.wf 0 s0 rfl
  have w1 := h.wf 1 s1 rfl
  have w2 := h.wf 2 s2 rfl
  have w3 := h.wf 3 s3 rfl
  obtain ⟨p0, v1, e0, his1⟩ := strsCons his
  obtain ⟨p1, v2, e1, his2⟩ := strsCons his1
  obtain ⟨p2, v3, e2, his3⟩ := strsCons his2
  obtain ⟨p3, v4, e3, his4⟩ := strsCons his3
  exact ⟨s0, s1, s2, s3, p0, p1, p2, p3, by rw [e0, e1, e2, e3, strsNil his4], w0, w1, w2, w3⟩
structure IS where
  sg : List (Option (List Nat))
  x : Tok
def IS.names (core : List Nat) (c : IS) : List (Str × Value) := [(Str.ofString "nest", .str (rend core c.sg) c.x)]
structure IS.J (core : List Nat) (j : Nat) (c : IS) : Prop where
  wf : WF core c.sg
  l : c.sg.length = j
  i : ids c.sg = j
theorem sum3z {x y z n : Int} (a : x = 0) (b : y = 0) (c : z = 0) (h : n = x + (y + (z + 0))) : 0 ≤ n ∧ n ≤ 6 := by omega
set_option maxHeartbeats 8000000 in
theorem law_rest6 (w : World) (mean : ExcName → Option Value) (mg mb : Str → Option Value) (loose : List Str) (base : Heap) (L fa : Addr) (cd : Value) (s : Shared) (m : Str → Option Value) (Q : Flow → Shared → Prop) (E : Value → Shared → Prop)
    (a b c a0 a1 a2 a3 b0 b1 b2 b3 c0 c1 c2 c3 n0 n1 n2 n3 g0 g1 g2 g3 q0 q1 q2 q3 : Int) (core : List Nat) (tk ta tb tc u0 u1 u2 u3 v0 v1 v2 v3 w0 w1 w2 w3 x0 x1 x2 x3 y0 y1 y2 y3 z0 z1 z2 z3 : Tok) (k9 : Nat) (Dc Df R0 R1 R2 Ds dl cl : Addr) (o8 : Obj)
    (hB : Below callerA base [] base) (hX : (hd.heap_39 w.params).In base) (hT : Top topProg loose mean mg mb base) (hC : CodeHd base 49 45)
    (hF : Fr base L s.heap (fun y => if y = Str.ofString "core" then some (.str (rend core []) tk) else if y = Str.ofString "carries" then some (.ref cl) else if y = Str.ofString "left" then some (.ref dl) else if y = Str.ofString "chips" then some (.ref Dc) else if y = Str.ofString "shares" then some (.ref Ds) else m y))
    (h8 : o8.data = .cell (some (.ref Df)))
    (hN : News base L s.heap [(dl, LCg.lst [.int g0 y0, .int g1 y1, .int g2 y2, .int g3 y3]), (cl, W.listOf #[.int q0 z0, .int q1 z1, .int q2 z2, .int q3 z3] k9), (Dc, LCg.lst [.int n0 x0, .int n1 x1, .int n2 x2, .int n3 x3]), (Df, LCg.lst [.ref R0, .ref R1, .ref R2]),
      (R0, LCg.lst [.int a0 u0, .int a1 u1, .int a2 u2, .int a3 u3]), (R1, LCg.lst [.int b0 v0, .int b1 v1, .int b2 v2, .int b3 v3]), (R2, LCg.lst [.int c0 w0, .int c1 w1, .int c2 w2, .int c3 w3]), (Ds, LCg.lst [.int a ta, .int b tb, .int c tc]), (L + 1, o8), (45, tabObj #[])])
    (ha : Digs a a0 a1 a2 a3) (hb : Digs b b0 b1 b2 b3) (hc : Digs c c0 c1 c2 c3) (hn0 : n0 = a0 + (b0 + (c0 + 0))) (hn1 : n1 = a1 + (b1 + (c1 + 0))) (hn2 : n2 = a2 + (b2 + (c2 + 0))) (hn3 : n3 = a3 + (b3 + (c3 + 0)))
    (hq0 : q0 = n0 / 3) (hq1 : q1 = (n1 + q0) / 3) (hq2 : q2 = (n2 + q1) / 3) (hq3 : q3 = (n3 + q2) / 3) (hg0 : g0 = n0 - 3 * q0 + q3) (hg1 : g1 = n1 + q0 - 3 * q1) (hg2 : g2 = n2 + q1 - 3 * q2) (hg3 : g3 = n3 + q2 - 3 * q3)
    (hcore : core = core5 ∨ core = core17)
    (hE : PassesOwn (model PySem.Challenge.rw_wb0014_01.row.prog w) (callerA.deeper (envOfC (Str.ofString "law") lawScope L fa cd)) (envOfC (Str.ofString "law") lawScope L fa cd) E)
    (hQ : ∀ h' tk' m', Fr base L h' m' → GrownAt 45 h' → Q (.ret (.bool true)) { s with heap := h', toks := tk' }) :
    wpAny (model PySem.Challenge.rw_wb0014_01.row.prog w) (callerA.deeper (envOfC (Str.ofString "law") lawScope L fa cd)) (execs (lawBody.drop 6) (envOfC (Str.ofString "law") lawScope L fa cd)) Q E s := by
  revert hX
  k_fill
  intro hX
  have b0' : 0 ≤ n0 ∧ n0 ≤ 6 := sum3 ha.z0 hb.z0 hc.z0 hn0
  have b1' : 0 ≤ n1 ∧ n1 ≤ 6 := sum3 ha.z1 hb.z1 hc.z1 hn1
  have b2' : 0 ≤ n2 ∧ n2 ≤ 6 := sum3 ha.z2 hb.z2 hc.z2 hn2
  have b3' : 0 ≤ n3 ∧ n3 ≤ 6 := sum3z ha.z3 hb.z3 hc.z3 hn3
  have hw0 : WF core [] := ⟨hcore, fun _ h => absurd h List.not_mem_nil, by decide⟩
  with_unfolding_all show wpAny _ (callerA.deeper (envOfC (Str.ofString "law") (Scope.mk _ _ _ _ _) L fa cd)) (execs (_ :: _) (envOfC (Str.ofString "law") (Scope.mk _ _ _ _ _) L fa cd)) Q E s
  k_steps
  unfold Hold
  rename Fr _ _ _ _ => F2
  rename News _ _ _ _ => N2
  rename IsRange _ _ _ _ _ _ _ _ => RR2
  rename_i Dn hh1 l19 hh2 Fx Nx hh3 tk2 t1 u9 v9 aK
  with_unfolding_all refine iter_rangeUnr (n := 4) (by rfl) RR2 (by first | decide | rfl) (by first | decide | rfl) F2 N2 ?_
  intro I hI
  have hI1 : Dn ≠ I := Nat.ne_of_lt (hI _ (.head _))
  have hDn := (show ∀ p ∈ [(dl, LCg.lst [.int g0 y0, .int g1 y1, .int g2 y2, .int g3 y3]), (cl, W.listOf #[.int q0 z0, .int q1 z1, .int q2 z2, .int q3 z3] k9), (Dc, LCg.lst [.int n0 x0, .int n1 x1, .int n2 x2, .int n3 x3]), (Df, LCg.lst [.ref R0, .ref R1, .ref R2]), (R0, LCg.lst [.int a0 u0, .int a1 u1, .int a2 u2, .int a3 u3]), (R1, LCg.lst [.int b0 v0, .int b1 v1, .int b2 v2, .int b3 v3]), (R2, LCg.lst [.int c0 w0, .int c1 w1, .int c2 w2, .int c3 w3]), (Ds, LCg.lst [.int a ta, .int b tb, .int c tc]), (L + 1, o8), ((45 : Addr), tabObj #[])], p.1 ≠ Dn from List.forall_mem_cons.mpr ⟨Nat.ne_of_lt l19.1, List.forall_mem_cons.mpr ⟨Nat.ne_of_lt l19.2.1, List.forall_mem_cons.mpr ⟨Nat.ne_of_lt l19.2.2.1, List.forall_mem_cons.mpr ⟨Nat.ne_of_lt l19.2.2.2.1, List.forall_mem_cons.mpr ⟨Nat.ne_of_lt l19.2.2.2.2.1, List.forall_mem_cons.mpr ⟨Nat.ne_of_lt l19.2.2.2.2.2.1, List.forall_mem_cons.mpr ⟨Nat.ne_of_lt l19.2.2.2.2.2.2.1, List.forall_mem_cons.mpr ⟨Nat.ne_of_lt l19.2.2.2.2.2.2.2.1, List.forall_mem_cons.mpr ⟨Nat.ne_of_lt l19.2.2.2.2.2.2.2.2.1, List.forall_mem_cons.mpr ⟨Nat.ne_of_lt l19.2.2.2.2.2.2.2.2.2, List.forall_mem_nil _⟩⟩⟩⟩⟩⟩⟩⟩⟩⟩)
  have hI9 : I ≠ Dn := Ne.symm hI1
  refine rr_inv (NS.led Dn _) (fun _ => []) [Str.ofString "place", Str.ofString "nest", Str.ofString "turn"] _ (NS.J core [n0, n1, n2, n3]) ?off ?turn ?fin 4 0 ⟨[], [], 0⟩ _ rfl ⟨.nil, rfl, fun j s h => by cases h⟩ (fun _ h => absurd h List.not_mem_nil) (fun _ _ _ => rfl)
  case off =>
    intro i c hJ p hp
    rcases List.mem_cons.mp hp with rfl | hp
    · exact hI1
    · exact Nat.ne_of_lt (hI _ (.tail _ hp))
  case fin =>
    rintro ⟨nv, sg, k⟩ u' h tk8 hJ F N
    obtain ⟨s0, s1, s2, s3, p0, p1, p2, p3, rfl, ⟨sw0, l0, i0⟩, ⟨sw1, l1, i1⟩, ⟨sw2, l2, i2⟩, ⟨sw3, l3, i3⟩⟩ := NS.four hJ
    dsimp only [NS.led] at F N
    have F8 := Fr.put (x := Str.ofString "shares") (v := .ref Ds) F rfl
    have F8 := Fr.put (x := Str.ofString "chips") (v := .ref Dc) F8 rfl
    have F8 := Fr.put (x := Str.ofString "left") (v := .ref dl) F8 rfl
    have F8 := Fr.put (x := Str.ofString "carries") (v := .ref cl) F8 rfl
    have F8 := Fr.put (x := Str.ofString "core") (v := .str (rend core []) _) F8 rfl
    have F8 := Fr.put (x := Str.ofString "nests") (v := .ref Dn) F8 rfl
    with_unfolding_all refine' law_rest8 (mean := mean) (mg := mg) (mb := mb) (loose := loose) (a := a) (b := b) (c' := c) (fa := fa) (cd := cd) (E := E) (hB := hB) (hX := hX) (hT := hT) (hC := hC) (hF := F8) (h8 := h8) (hN := ?hN2) (ha := ha) (hb := hb) (hc := hc) (hn0 := hn0) (hn1 := hn1) (hn2 := hn2) (hn3 := hn3) (hq0 := hq0) (hq1 := hq1) (hq2 := hq2) (hq3 := hq3) (hg0 := hg0) (hg1 := hg1) (hg2 := hg2) (hg3 := hg3) (sw0 := sw0) (sw1 := sw1) (sw2 := sw2) (sw3 := sw3) (l0 := l0) (l1 := l1) (l2 := l2) (l3 := l3) (i0 := i0) (i1 := i1) (i2 := i2) (i3 := i3) (hE := hE) (hQ := hQ)
    case hN2 => exact kst_newsOf N (by lcg_sub)
  case turn =>
    rintro i ⟨nv, sg, k⟩ u t h tk hi hJ F8 N8
    dsimp only [NS.led] at F8 N8
    rcases i with _ | _ | _ | _ | i
    · k_steps
      unfold Hold
      rename Fr _ _ _ _ => F4
      rename News _ _ _ _ => N4
      rename IsRange _ _ _ _ _ _ _ _ => R4
      with_unfolding_all refine iter_rangeUnr (n := n0.toNat) (by rfl) R4 (range_small b0').1 (range_small b0').2 F4 N4 ?_
      intro I2 hI2
      refine rr_inv (fun _ => _) (IS.names core) [Str.ofString "nest", Str.ofString "turn"] _ (IS.J core) (fun _ _ _ p hp => Nat.ne_of_lt (hI2 p hp)) ?tu0 ?fi0 n0.toNat 0 ⟨[], _⟩ _ (Nat.zero_add _) ⟨hw0, rfl, rfl⟩ (List.forall_mem_cons.mpr ⟨rfl, fun _ h => absurd h List.not_mem_nil⟩) (fun _ _ _ => rfl)
      case tu0 =>
        rintro j ⟨sg2, x⟩ u t h tk hj hJ2 F6 N6
        have hw : WF core sg2 := hJ2.wf
        have hl2 : sg2.length = j := hJ2.l
        have hi2 : ids sg2 = j := hJ2.i
        dsimp only [IS.names] at F6
        k_steps
        rename Fr _ _ _ _ => F7
        rename News _ _ _ _ => N7
        refine ri_end ⟨sg2 ++ [some (hexS _)], _⟩ F7 N7 (fun p hp => hp) (List.forall_mem_cons.mpr ⟨rfl, fun _ h => absurd h List.not_mem_nil⟩) ?rr ⟨hw.wrap _ (by omega), (by show (sg2 ++ [_]).length = j + 1; rw [List.length_append, hl2]; rfl), (by show ids (sg2 ++ [some _]) = j + 1; rw [ids_wrap, hi2])⟩
        case rr => intro z h2 h3; (simp only [List.contains_cons, List.contains_nil, Bool.or_false, Bool.or_eq_false_iff, beq_eq_false_iff_ne, ne_eq] at h3); (simp [kstB, h3])
      case fi0 =>
        rintro ⟨sg2, x⟩ u h tk hJ2 F6 N6
        have hl2 : sg2.length = n0.toNat := hJ2.l
        have hi2 : ids sg2 = n0.toNat := hJ2.i
        have hz : nv.length ≤ sizeLine := by
          have e1 := strsLen hJ.is
          have e2 := hJ.len
          rw [List.length_map] at e1
          dsimp only at e1 e2
          rw [sizeLine_eq]; omega
        dsimp only [IS.names] at F6
        k_steps
        rename Fr _ _ _ _ => F7
        rename News _ _ _ _ => N7
        refine ri_end ⟨nv ++ [Value.str (rend core sg2) x], sg ++ [sg2], k + 1⟩ F7 N7 (fun p hp => hp) (fun _ h => absurd h List.not_mem_nil) ?rr (hJ.next ⟨hJ2.wf, (by show (sg2.length : Int) = n0; omega), (by show (ids sg2 : Int) = n0; omega)⟩)
        case rr => intro z h2 h3; (simp only [List.contains_cons, List.contains_nil, Bool.or_false, Bool.or_eq_false_iff, beq_eq_false_iff_ne, ne_eq] at h3); (simp [kstB, h3])
    · k_steps
      unfold Hold
      rename Fr _ _ _ _ => F4
      rename News _ _ _ _ => N4
      rename IsRange _ _ _ _ _ _ _ _ => R4
      with_unfolding_all refine iter_rangeUnr (n := n1.toNat) (by rfl) R4 (range_small b1').1 (range_small b1').2 F4 N4 ?_
      intro I2 hI2
      refine rr_inv (fun _ => _) (IS.names core) [Str.ofString "nest", Str.ofString "turn"] _ (IS.J core) (fun _ _ _ p hp => Nat.ne_of_lt (hI2 p hp)) ?tu1 ?fi1 n1.toNat 0 ⟨[], _⟩ _ (Nat.zero_add _) ⟨hw0, rfl, rfl⟩ (List.forall_mem_cons.mpr ⟨rfl, fun _ h => absurd h List.not_mem_nil⟩) (fun _ _ _ => rfl)
      case tu1 =>
        rintro j ⟨sg2, x⟩ u t h tk hj hJ2 F6 N6
        have hw : WF core sg2 := hJ2.wf
        have hl2 : sg2.length = j := hJ2.l
        have hi2 : ids sg2 = j := hJ2.i
        dsimp only [IS.names] at F6
        k_steps
        rename Fr _ _ _ _ => F7
        rename News _ _ _ _ => N7
        refine ri_end ⟨sg2 ++ [some (hexS _)], _⟩ F7 N7 (fun p hp => hp) (List.forall_mem_cons.mpr ⟨rfl, fun _ h => absurd h List.not_mem_nil⟩) ?rr ⟨hw.wrap _ (by omega), (by show (sg2 ++ [_]).length = j + 1; rw [List.length_append, hl2]; rfl), (by show ids (sg2 ++ [some _]) = j + 1; rw [ids_wrap, hi2])⟩
        case rr => intro z h2 h3; (simp only [List.contains_cons, List.contains_nil, Bool.or_false, Bool.or_eq_false_iff, beq_eq_false_iff_ne, ne_eq] at h3); (simp [kstB, h3])
      case fi1 =>
        rintro ⟨sg2, x⟩ u h tk hJ2 F6 N6
        have hl2 : sg2.length = n1.toNat := hJ2.l
        have hi2 : ids sg2 = n1.toNat := hJ2.i
        have hz : nv.length ≤ sizeLine := by
          have e1 := strsLen hJ.is
          have e2 := hJ.len
          rw [List.length_map] at e1
          dsimp only at e1 e2
          rw [sizeLine_eq]; omega
        dsimp only [IS.names] at F6
        k_steps
        rename Fr _ _ _ _ => F7
        rename News _ _ _ _ => N7
        refine ri_end ⟨nv ++ [Value.str (rend core sg2) x], sg ++ [sg2], k + 1⟩ F7 N7 (fun p hp => hp) (fun _ h => absurd h List.not_mem_nil) ?rr (hJ.next ⟨hJ2.wf, (by show (sg2.length : Int) = n1; omega), (by show (ids sg2 : Int) = n1; omega)⟩)
        case rr => intro z h2 h3; (simp only [List.contains_cons, List.contains_nil, Bool.or_false, Bool.or_eq_false_iff, beq_eq_false_iff_ne, ne_eq] at h3); (simp [kstB, h3])
    · k_steps
      unfold Hold
      rename Fr _ _ _ _ => F4
      rename News _ _ _ _ => N4
      rename IsRange _ _ _ _ _ _ _ _ => R4
      with_unfolding_all refine iter_rangeUnr (n := n2.toNat) (by rfl) R4 (range_small b2').1 (range_small b2').2 F4 N4 ?_
      intro I2 hI2
      refine rr_inv (fun _ => _) (IS.names core) [Str.ofString "nest", Str.ofString "turn"] _ (IS.J core) (fun _ _ _ p hp => Nat.ne_of_lt (hI2 p hp)) ?tu2 ?fi2 n2.toNat 0 ⟨[], _⟩ _ (Nat.zero_add _) ⟨hw0, rfl, rfl⟩ (List.forall_mem_cons.mpr ⟨rfl, fun _ h => absurd h List.not_mem_nil⟩) (fun _ _ _ => rfl)
      case tu2 =>
        rintro j ⟨sg2, x⟩ u t h tk hj hJ2 F6 N6
        have hw : WF core sg2 := hJ2.wf
        have hl2 : sg2.length = j := hJ2.l
        have hi2 : ids sg2 = j := hJ2.i
        dsimp only [IS.names] at F6
        k_steps
        rename Fr _ _ _ _ => F7
        rename News _ _ _ _ => N7
        refine ri_end ⟨sg2 ++ [some (hexS _)], _⟩ F7 N7 (fun p hp => hp) (List.forall_mem_cons.mpr ⟨rfl, fun _ h => absurd h List.not_mem_nil⟩) ?rr ⟨hw.wrap _ (by omega), (by show (sg2 ++ [_]).length = j + 1; rw [List.length_append, hl2]; rfl), (by show ids (sg2 ++ [some _]) = j + 1; rw [ids_wrap, hi2])⟩
        case rr => intro z h2 h3; (simp only [List.contains_cons, List.contains_nil, Bool.or_false, Bool.or_eq_false_iff, beq_eq_false_iff_ne, ne_eq] at h3); (simp [kstB, h3])
      case fi2 =>
        rintro ⟨sg2, x⟩ u h tk hJ2 F6 N6
        have hl2 : sg2.length = n2.toNat := hJ2.l
        have hi2 : ids sg2 = n2.toNat := hJ2.i
        have hz : nv.length ≤ sizeLine := by
          have e1 := strsLen hJ.is
          have e2 := hJ.len
          rw [List.length_map] at e1
          dsimp only at e1 e2
          rw [sizeLine_eq]; omega
        dsimp only [IS.names] at F6
        k_steps
        rename Fr _ _ _ _ => F7
        rename News _ _ _ _ => N7
        refine ri_end ⟨nv ++ [Value.str (rend core sg2) x], sg ++ [sg2], k + 1⟩ F7 N7 (fun p hp => hp) (fun _ h => absurd h List.not_mem_nil) ?rr (hJ.next ⟨hJ2.wf, (by show (sg2.length : Int) = n2; omega), (by show (ids sg2 : Int) = n2; omega)⟩)
        case rr => intro z h2 h3; (simp only [List.contains_cons, List.contains_nil, Bool.or_false, Bool.or_eq_false_iff, beq_eq_false_iff_ne, ne_eq] at h3); (simp [kstB, h3])
    · k_steps
      unfold Hold
      rename Fr _ _ _ _ => F4
      rename News _ _ _ _ => N4
      rename IsRange _ _ _ _ _ _ _ _ => R4
      with_unfolding_all refine iter_rangeUnr (n := n3.toNat) (by rfl) R4 (range_small b3').1 (range_small b3').2 F4 N4 ?_
      intro I2 hI2
      refine rr_inv (fun _ => _) (IS.names core) [Str.ofString "nest", Str.ofString "turn"] _ (IS.J core) (fun _ _ _ p hp => Nat.ne_of_lt (hI2 p hp)) ?tu3 ?fi3 n3.toNat 0 ⟨[], _⟩ _ (Nat.zero_add _) ⟨hw0, rfl, rfl⟩ (List.forall_mem_cons.mpr ⟨rfl, fun _ h => absurd h List.not_mem_nil⟩) (fun _ _ _ => rfl)
      case tu3 =>
        rintro j ⟨sg2, x⟩ u t h tk hj hJ2 F6 N6
        have hw : WF core sg2 := hJ2.wf
        have hl2 : sg2.length = j := hJ2.l
        have hi2 : ids sg2 = j := hJ2.i
        dsimp only [IS.names] at F6
        k_steps
        rename Fr _ _ _ _ => F7
        rename News _ _ _ _ => N7
        refine ri_end ⟨sg2 ++ [some (hexS _)], _⟩ F7 N7 (fun p hp => hp) (List.forall_mem_cons.mpr ⟨rfl, fun _ h => absurd h List.not_mem_nil⟩) ?rr ⟨hw.wrap _ (by omega), (by show (sg2 ++ [_]).length = j + 1; rw [List.length_append, hl2]; rfl), (by show ids (sg2 ++ [some _]) = j + 1; rw [ids_wrap, hi2])⟩
        case rr => intro z h2 h3; (simp only [List.contains_cons, List.contains_nil, Bool.or_false, Bool.or_eq_false_iff, beq_eq_false_iff_ne, ne_eq] at h3); (simp [kstB, h3])
      case fi3 =>
        rintro ⟨sg2, x⟩ u h tk hJ2 F6 N6
        have hl2 : sg2.length = n3.toNat := hJ2.l
        have hi2 : ids sg2 = n3.toNat := hJ2.i
        have hz : nv.length ≤ sizeLine := by
          have e1 := strsLen hJ.is
          have e2 := hJ.len
          rw [List.length_map] at e1
          dsimp only at e1 e2
          rw [sizeLine_eq]; omega
        dsimp only [IS.names] at F6
        k_steps
        rename Fr _ _ _ _ => F7
        rename News _ _ _ _ => N7
        refine ri_end ⟨nv ++ [Value.str (rend core sg2) x], sg ++ [sg2], k + 1⟩ F7 N7 (fun p hp => hp) (fun _ h => absurd h List.not_mem_nil) ?rr (hJ.next ⟨hJ2.wf, (by show (sg2.length : Int) = n3; omega), (by show (ids sg2 : Int) = n3; omega)⟩)
        case rr => intro z h2 h3; (simp only [List.contains_cons, List.contains_nil, Bool.or_false, Bool.or_eq_false_iff, beq_eq_false_iff_ne, ne_eq] at h3); (simp [kstB, h3])
    · omega
end
end
-- part LR
section
open PySem PySem.Calls PyProof.Rows PySem.W
theorem carried_c {w : World} {mean : ExcName → Option Value} {mg mb : Str → Option Value} {loose : List Str} {news : List (Addr × Obj)} {c0 c1 c2 c3 : Int} {x0 x1 x2 x3 : Tok} {ln : Addr}
    (h0 : 0 ≤ c0 ∧ c0 ≤ 6) (h1 : 0 ≤ c1 ∧ c1 ≤ 6) (h2 : 0 ≤ c2 ∧ c2 ≤ 6) (h3 : 0 ≤ c3 ∧ c3 ≤ 6)
    {dp un : Nat} {gd : Option (List Code)} {cn : Str} {cs : Scope} {a : Addr} {ccd : Value} {cl : List (Str × Addr)} {outer : List Env} {A₀ : Around} {base h₀ : Heap} {L : Addr} {m : Str → Option Value} {s : Shared} {Q E : Value → Shared → Prop}
    (hB : Below A₀ base outer h₀) (hF : Fr h₀ L s.heap m) (hX : (hd.heap_39 w.params).In h₀)
    (hN : News h₀ L s.heap ((ln, LCg.lst [.int c0 x0, .int c1 x1, .int c2 x2, .int c3 x3]) :: news)) (hT : Top topProg loose mean mg mb h₀) (hk : cs.kind = .function)
    (hdp : dp + 6 < recursionLimit) (hun : un + 50 < cLine)
    (hret : ∀ (D dl cl' : Addr) (h' : Heap) (tk' : Nat) (g0 g1 g2 g3 q0 q1 q2 q3 : Int) (y0 y1 y2 y3 z0 z1 z2 z3 : Tok) (k : Nat), q0 = c0 / 3 → q1 = (c1 + q0) / 3 → q2 = (c2 + q1) / 3 → q3 = (c3 + q2) / 3 →
      g0 = c0 - 3 * q0 + q3 → g1 = c1 + q0 - 3 * q1 → g2 = c2 + q1 - 3 * q2 → g3 = c3 + q2 - 3 * q3 → Fr h₀ L h' m →
      News h₀ L h' ((D, { cls := .type "tuple", data := .seq #[.ref dl, .ref cl'] }) :: (dl, LCg.lst [.int g0 y0, .int g1 y1, .int g2 y2, .int g3 y3]) :: (cl', W.listOf #[.int q0 z0, .int q1 z1, .int q2 z2, .int q3 z3] k) ::
        (ln, LCg.lst [.int c0 x0, .int c1 x1, .int c2 x2, .int c3 x3]) :: news) → Q (.ref D) { s with heap := h', toks := tk' }) :
    wpAny (model PySem.Challenge.rw_wb0014_01.row.prog w) (ktrTop dp un gd cn cs L a ccd cl outer) (call (.ref 55) [.ref ln]) Q E s :=
  carried_ok w mean mg mb loose news c0 c1 c2 c3 x0 x1 x2 x3 4 ln h0 h1 h2 h3 dp un gd cn cs a ccd cl outer A₀ base h₀ L m s Q E hB hF hX hN hT hk hdp hun hret
theorem rend5 : Str.ofString "<0 at 0x12345>" = rend core5 [] := by decide +kernel
theorem rend17 : Str.ofString "<0 at 0x0123456789abcdef0>" = rend core17 [] := by decide +kernel
theorem linesLR : True := by
  w_top off
  k_with_none
  k_with "eval Name" => (k_here; k_dflt (refine' nameX_L ?F ?v ?_ ?a ?b; (case F => k_asm); (case a => rfl); (case b => rfl); (case v => rfl); k_whole))
  k_with "callWith ref" => (k_here; k_dflt (refine' callWith_K ?k1 ?k2 ?_; (case k1 => k_asm); (case k2 => k_is); k_whole))
  k_with "call ref" => (k_here; (with_reducible show wpAny _ _ (call (Value.ref 55) _) _ _ _); k_dflt (refine' carried_c (h0 := ?h0) (h1 := ?h1) (h2 := ?h2) (h3 := ?h3) (hB := ?B) (hF := ?F) (hX := ?X) (hN := ?N) (hT := ?T) (hk := ?k) (hdp := ?dp) (hun := ?un) (hret := ?_); (case B => k_asm); (case F => k_asm); (case X => k_asm); (case N => k_asm); (case T => k_asm); (case h0 => assumption); (case h1 => assumption); (case h2 => assumption); (case h3 => assumption); (case k => exact rfl); (case dp => decide); (case un => decide)); intro _ _ _ _ _ _ _ _ _ _ _ _ _ _ _ _ _ _ _ _ _ _ _ _ _ _ _ _ _ _ _ N9; (try dsimp only at N9); (try dsimp only); (revert N9; intro _))
  k_with "execs cons Assign cons" => (k_here; (with_reducible show wpAny _ _ (PySem.execs (Stmt.Assign [Expr.Name (Str.ofString "nests") _] (Expr.List [] _) _ :: _) _) _ _ _); refine Hold.out ?_)
  trivial
theorem zero3 {x y z n : Int} (a : x = 0) (b : y = 0) (c : z = 0) (h : n = x + (y + (z + 0))) : n = 0 := by omega
theorem noBig {M g0 g1 g2 g3 : Int} (a : g0 ≤ 2) (b : g1 ≤ 2) (c : g2 ≤ 2) (d : g3 ≤ 2) (h : M = g0 ∨ M = g1 ∨ M = g2 ∨ M = g3) (l : 2 < M) : False := by omega
theorem sumE {G a b c a0 a1 a2 b0 b1 b2 c0 c1 c2 n0 n1 n2 : Int} (ke : G = n0 + 3 * n1 + 9 * n2) (ae : a = a0 + 3 * a1 + 9 * a2) (be : b = b0 + 3 * b1 + 9 * b2) (ce : c = c0 + 3 * c1 + 9 * c2)
    (h0 : n0 = a0 + (b0 + (c0 + 0))) (h1 : n1 = a1 + (b1 + (c1 + 0))) (h2 : n2 = a2 + (b2 + (c2 + 0))) : G = a + (b + (c + 0)) := by omega
set_option maxHeartbeats 8000000 in
theorem law_rest (w : World) (mean : ExcName → Option Value) (mg mb : Str → Option Value) (loose : List Str) (base : Heap) (L fa : Addr) (cd : Value) (s : Shared) (m : Str → Option Value) (Q : Flow → Shared → Prop) (E : Value → Shared → Prop)
    (a b c a0 a1 a2 a3 b0 b1 b2 b3 c0 c1 c2 c3 n0 n1 n2 n3 : Int) (ta tb tc u0 u1 u2 u3 v0 v1 v2 v3 w0 w1 w2 w3 x0 x1 x2 x3 : Tok) (Dc Df R0 R1 R2 Ds : Addr) (o8 : Obj)
    (hB : Below callerA base [] base) (hX : (hd.heap_39 w.params).In base) (hT : Top topProg loose mean mg mb base) (hC : CodeHd base 49 45)
    (hF : Fr base L s.heap (fun z => if z = Str.ofString "chips" then some (.ref Dc) else if z = Str.ofString "shares" then some (.ref Ds) else m z)) (h8 : o8.data = .cell (some (.ref Df)))
    (hN : News base L s.heap [(Dc, LCg.lst [.int n0 x0, .int n1 x1, .int n2 x2, .int n3 x3]), (Df, LCg.lst [.ref R0, .ref R1, .ref R2]), (R0, LCg.lst [.int a0 u0, .int a1 u1, .int a2 u2, .int a3 u3]), (R1, LCg.lst [.int b0 v0, .int b1 v1, .int b2 v2, .int b3 v3]),
      (R2, LCg.lst [.int c0 w0, .int c1 w1, .int c2 w2, .int c3 w3]), (Ds, LCg.lst [.int a ta, .int b tb, .int c tc]), (L + 1, o8), (45, tabObj #[])])
    (ha : Digs a a0 a1 a2 a3) (hb : Digs b b0 b1 b2 b3) (hc : Digs c c0 c1 c2 c3) (hn0 : n0 = a0 + (b0 + (c0 + 0))) (hn1 : n1 = a1 + (b1 + (c1 + 0))) (hn2 : n2 = a2 + (b2 + (c2 + 0))) (hn3 : n3 = a3 + (b3 + (c3 + 0)))
    (hE : PassesOwn (model PySem.Challenge.rw_wb0014_01.row.prog w) (callerA.deeper (envOfC (Str.ofString "law") lawScope L fa cd)) (envOfC (Str.ofString "law") lawScope L fa cd) E)
    (hQ : ∀ h' tk' m', Fr base L h' m' → GrownAt 45 h' → Q (.ret (.bool true)) { s with heap := h', toks := tk' }) :
    wpAny (model PySem.Challenge.rw_wb0014_01.row.prog w) (callerA.deeper (envOfC (Str.ofString "law") lawScope L fa cd)) (execs (lawBody.drop 3) (envOfC (Str.ofString "law") lawScope L fa cd)) Q E s := by
  revert hX
  k_fill
  intro hX
  have b0' : 0 ≤ n0 ∧ n0 ≤ 6 := sum3 ha.z0 hb.z0 hc.z0 hn0
  have b1' : 0 ≤ n1 ∧ n1 ≤ 6 := sum3 ha.z1 hb.z1 hc.z1 hn1
  have b2' : 0 ≤ n2 ∧ n2 ≤ 6 := sum3 ha.z2 hb.z2 hc.z2 hn2
  have b3' : 0 ≤ n3 ∧ n3 ≤ 6 := sum3z ha.z3 hb.z3 hc.z3 hn3
  with_unfolding_all show wpAny _ (callerA.deeper (envOfC (Str.ofString "law") (Scope.mk _ _ _ _ _) L fa cd)) (execs (_ :: _) (envOfC (Str.ofString "law") (Scope.mk _ _ _ _ _) L fa cd)) Q E s
  k_steps
  · exfalso
    rename 2 < _ => h2
    rename _ = _ ∨ _ => hM
    rename _ = n0 / 3 => e0; rename _ = (n1 + _) / 3 => e1; rename _ = (n2 + _) / 3 => e2; rename _ = (n3 + _) / 3 => e3; rename _ = n0 - 3 * _ + _ => d0; rename _ = n1 + _ - 3 * _ => d1; rename _ = n2 + _ - 3 * _ => d2; rename _ = n3 + _ - 3 * _ => d3
    have K := carry_of b0' b1' b2' (zero3 ha.z3 hb.z3 hc.z3 hn3) e0 e1 e2 e3 d0 d1 d2 d3
    exact noBig K.zg0.2 K.zg1.2 K.zg2.2 K.zg3.2 hM h2
  · exfalso
    rename _ ≠ a + (b + (c + 0)) => h2
    rename _ = n0 / 3 => e0; rename _ = (n1 + _) / 3 => e1; rename _ = (n2 + _) / 3 => e2; rename _ = (n3 + _) / 3 => e3; rename _ = n0 - 3 * _ + _ => d0; rename _ = n1 + _ - 3 * _ => d1; rename _ = n2 + _ - 3 * _ => d2; rename _ = n3 + _ - 3 * _ => d3
    have K := carry_of b0' b1' b2' (zero3 ha.z3 hb.z3 hc.z3 hn3) e0 e1 e2 e3 d0 d1 d2 d3
    apply h2
    exact sumE K.e ha.e hb.e hc.e hn0 hn1 hn2
  all_goals
    unfold Hold
    rename News _ _ _ _ => N5
    rename Fr _ _ _ _ => F5
  · rw [rend17] at F5
    with_unfolding_all refine law_rest6 (core := core17) (fa := fa) (cd := cd) (E := E) (hB := hB) (hX := hX) (hT := hT) (hC := hC) (hF := F5) (h8 := h8) (hN := kst_newsOf N5 (by lcg_sub)) (ha := ha) (hb := hb) (hc := hc) (hn0 := hn0) (hn1 := hn1) (hn2 := hn2) (hn3 := hn3) (hq0 := by assumption) (hq1 := by assumption) (hq2 := by assumption) (hq3 := by assumption) (hg0 := by assumption) (hg1 := by assumption) (hg2 := by assumption) (hg3 := by assumption) (hcore := .inr rfl) (hE := hE) (hQ := hQ)
  · rw [rend5] at F5
    with_unfolding_all refine law_rest6 (core := core5) (fa := fa) (cd := cd) (E := E) (hB := hB) (hX := hX) (hT := hT) (hC := hC) (hF := F5) (h8 := h8) (hN := kst_newsOf N5 (by lcg_sub)) (ha := ha) (hb := hb) (hc := hc) (hn0 := hn0) (hn1 := hn1) (hn2 := hn2) (hn3 := hn3) (hq0 := by assumption) (hq1 := by assumption) (hq2 := by assumption) (hq3 := by assumption) (hg0 := by assumption) (hg1 := by assumption) (hg2 := by assumption) (hg3 := by assumption) (hcore := .inl rfl) (hE := hE) (hQ := hQ)
end
-- part LW1
section
open PySem PySem.Calls PyProof.Rows PySem.W
section
theorem CeRest.succ {prog : Program} {w : World} {A : Around} {h₀ : Heap} {L : Addr} {m : Str → Option Value} {env : Env} {elt : Expr} {x : Str} {scope : Scope} {cl : List (Str × Addr)} {s : Shared} {S : List (Addr × Obj) → Prop} {P : Nat → Value → Prop} {Fin : List Value → List (Addr × Obj) → Prop} {k i : Nat} {ys : List Value} {news : List (Addr × Obj)}
    (h : ∀ v I oI C oC D K oK h tk (E' : Value → Shared → Prop), P i v → oK.data = .cell (some v) → Fr h₀ L h m → News h₀ L h ((I, oI) :: (C, oC) :: (D, LCg.lst ys) :: (K, oK) :: news) → Off4 I C D K news →
      ((@Ne Nat I C) ∧ (@Ne Nat I D) ∧ (@Ne Nat I K) ∧ (@Ne Nat C D) ∧ (@Ne Nat C K) ∧ (@Ne Nat D K)) →
      wpAny (model prog w) A (eval elt (compEnvC scope ((x, K) :: cl) C env)) (CeEnd h₀ L m { s with heap := h, toks := tk } I oI C oC D (LCg.lst ys) K oK S (fun y news' => CeRest prog w A h₀ L m env elt x scope cl s S P Fin k (i + 1) (ys ++ [y]) news')) E' { s with heap := h, toks := tk }) :
    CeRest prog w A h₀ L m env elt x scope cl s S P Fin (k + 1) i ys news := h
theorem CeRest.zero {prog : Program} {w : World} {A : Around} {h₀ : Heap} {L : Addr} {m : Str → Option Value} {env : Env} {elt : Expr} {x : Str} {scope : Scope} {cl : List (Str × Addr)} {s : Shared} {S : List (Addr × Obj) → Prop} {P : Nat → Value → Prop} {Fin : List Value → List (Addr × Obj) → Prop} {i : Nat} {ys : List Value} {news : List (Addr × Obj)}
    (h : Fin ys news) : CeRest prog w A h₀ L m env elt x scope cl s S P Fin 0 i ys news := h
theorem mem_past4 {X : Addr × Obj} {a b c d : Addr × Obj} {r : List (Addr × Obj)} : ∀ p ∈ a :: b :: c :: d :: X :: r, p ∈ X :: a :: b :: c :: d :: r := by
  intro p hp
  simp only [List.mem_cons] at hp ⊢
  rcases hp with h | h | h | h | h | h
  exact .inr (.inl h); exact .inr (.inr (.inl h)); exact .inr (.inr (.inr (.inl h))); exact .inr (.inr (.inr (.inr (.inl h)))); exact .inl h; exact .inr (.inr (.inr (.inr (.inr h))))
theorem shares3 {ys : List Value} {xs : List Int} (h : IntsAre ys (List.map (fun k => Int.fmod k 27) (List.take 3 (xs ++ [14, 8, 5])))) :
    ∃ a b c ta tb tc, ys = [.int a ta, .int b tb, .int c tc] ∧ (0 ≤ a ∧ a < 27) ∧ (0 ≤ b ∧ b < 27) ∧ (0 ≤ c ∧ c < 27) := by
  have f0 : ∀ x : Int, 0 ≤ x.fmod 27 ∧ x.fmod 27 < 27 := fun x => ⟨Int.fmod_nonneg_of_pos x (by decide), Int.fmod_lt_of_pos x (by decide)⟩
  obtain ⟨a, b, c, e⟩ : ∃ a b c, List.take 3 (xs ++ [14, 8, 5]) = [a, b, c] := by
    match xs with
    | [] => exact ⟨_, _, _, rfl⟩
    | [a] => exact ⟨_, _, _, rfl⟩
    | [a, b] => exact ⟨_, _, _, rfl⟩
    | a :: b :: c :: r => exact ⟨a, b, c, rfl⟩
  rw [e] at h
  cases h with | cons _ x h => cases h with | cons _ y h => cases h with | cons _ z h => cases h; exact ⟨_, _, _, x, y, z, rfl, f0 _, f0 _, f0 _⟩
theorem pow_lit {prog : Program} {w : World} {A : Around} {E : Value → Shared → Prop} {s : Shared} {Q : Value → Shared → Prop} {a n : Int} {t u : Tok} (k : Int) (hn : 0 ≤ n) (hsz : (Builtin.Int.intBits a : Int) * n ≤ 2 ^ 27) (hk : a ^ n.toNat = k) (h : Q (.int k s.toks) { s with toks := s.toks + 1 }) :
    wpAny (model prog w) A (binaryOp .Pow (.int a t) (.int n u)) Q E s := pow_int hn hsz (hk ▸ h)
theorem sz3 : (3 : Nat) ≤ sizeLine := by rw [sizeLine_eq]; decide
theorem sz4 : (4 : Nat) ≤ sizeLine := by rw [sizeLine_eq]; decide
theorem seq_no {a : Array Value} {n : Nat} : ∀ v, Data.seq a n ≠ Data.cell v := fun _ e => by cases e
theorem fld_no {a : Array Value} : ∀ v, Data.fields a ≠ Data.cell v := fun _ e => by cases e
theorem store_C {M : Model} {A : Around} {E : Value → Shared → Prop} {s : Shared} {h₀ : Heap} {L c : Addr} {m : Str → Option Value} {pre post : List (Addr × Obj)} {o : Obj} {v₀ : Option Value} {v : Value} {x : Str} {env : Env} {Q : Unit → Shared → Prop}
    (hk : env.scope.kind = .function) (hl : env.kindOf x = some .cell) (hc : env.cells.lookup x = some c) (F : Fr h₀ L s.heap m) (N : News h₀ L s.heap (pre ++ (c, o) :: post)) (hd : o.data = .cell v₀)
    (n1 : ∀ p ∈ pre, ∀ v, p.2.data ≠ .cell v) (n2 : ∀ p ∈ post, ∀ v, p.2.data ≠ .cell v)
    (h : ∀ h' o', Fr h₀ L h' m → News h₀ L h' (pre ++ (c, o') :: post) → o'.data = .cell (some v) → Q () { s with heap := h' }) : wpAny M A (storeName env x v) Q E s := by
  have hmem := N (c, o) (List.mem_append_right _ (.head _))
  have off : ∀ p ∈ pre ++ (c, o) :: post, (∀ v, p.2.data ≠ .cell v) → p.1 ≠ c := fun p hp hn e => by
    have := (N p hp).1
    rw [e, hmem.1] at this
    exact hn v₀ (by rw [← Option.some.inj this]; exact hd)
  have h1 : ∀ p ∈ pre, p.1 ≠ c := fun p hp => off p (List.mem_append_left _ hp) (n1 p hp)
  have h2 : ∀ p ∈ post, p.1 ≠ c := fun p hp => off p (List.mem_append_right _ (.tail _ hp)) (n2 p hp)
  refine wpAny_storeName_cell hk hl hc ⟨o, hmem.1, hd⟩ fun h' hv hs => ?_
  obtain ⟨o', ho', hd'⟩ := hv
  refine h h' o' ⟨F.ns.sameBut hs (Ne.symm hmem.2.1), fun b ob e => (hs.2 b (fun q => ?_)).trans (F.keep b ob e), F.above⟩ (N.setAt h1 h2 hs ho') hd'
  rw [q, hmem.2.2] at e; cases e
theorem linesLW1 : True := by
  w_top off
  k_with_none
  k_with "storeName" => (k_here; (with_reducible show wpAny _ _ (PySem.storeName _ (Str.ofString "figures") _) _ _ _); refine Hold.out ?_)
  k_with "FinA" => ((unfold LCg.FinA); intro _ _ _ _ N' o1'; (try simp only [LCg.Off1, and_true] at o1'); (try simp only [List.nil_append, List.cons_append] at N'); (try dsimp only); (revert N' o1'; intro _ _); refine Hold.out ?_)
  k_with "binaryOp Pow int int" => (k_here; (with_reducible show wpAny _ _ (binaryOp Operator.Pow (Value.int 3 _) (Value.int _ _)) _ _ _); k_dflt (first | refine pow_lit 1 (by decide) (by decide) (by decide) ?_ | refine pow_lit 3 (by decide) (by decide) (by decide) ?_ | refine pow_lit 9 (by decide) (by decide) (by decide) ?_ | refine pow_lit 27 (by decide) (by decide) (by decide) ?_))
  k_with "eval ListComp" => (k_here; k_dflt (refine ListComp_C (F₀ := by k_asm) (by rfl) (by intro h; rfl) (by intro n acc; rfl) (by rfl) (by decide) (by rfl) (by rfl) ?_))
  k_with "exec Assign cons ListComp" => (k_here; k_dflt (refine Assign_ListComp_C (F₀ := by k_asm) (by rfl) (by with_unfolding_all rfl) (by with_unfolding_all rfl) (by intro h; rfl) (by intro n acc; rfl) (by rfl) (by decide) (by rfl) (by rfl) (by rfl) (by rfl) ?_))
  k_with "CompSrc" => (k_here; k_dflt (first | (refine LCg.CompSrc.ledger (by rfl) (by k_asm) (by k_asm) (by k_mem) (by first | exact sz3 | exact sz4) ?_; intro g'; lcg_lit) | (refine LCg.CompSrc.range (by rfl) (by k_asm) (by k_asm) (by assumption) (by first | decide | rfl) (by first | rfl | decide) (by first | exact sz3 | exact sz4) ?_; intro g'; lcg_lit)))
  k_with "CeSrc" => (k_here; k_dflt (first | (refine CeSrc.ledger (by rfl) (by k_asm) (by k_asm) (by k_mem) (by first | exact sz3 | exact sz4) ?_; intro g'; (change CeRest _ _ _ _ _ _ _ _ _ _ _ _ _ _ _ 3 0 [] _)) | (refine CeSrc.range (by rfl) (by k_asm) (by k_asm) (by assumption) (by first | decide | rfl) (by first | rfl | decide) (by first | exact sz3 | exact sz4) ?_; intro g'; (change CeRest _ _ _ _ _ _ _ _ _ _ _ _ _ _ _ 4 0 [] _))))
  k_with "CeRest" => (with_unfolding_all first | (refine CeRest.succ ?_; intro v' I' oI' C' oC' D' K' oK' h' tk' E' hv' hK' F' N' off' ne'; (first | lcg_open hv' | (obtain ⟨t9', hv9'⟩ := hv'; subst hv9')); (try simp only [Off4, and_true] at off')) | refine CeRest.zero ?_)
  k_with "CeEnd" => ((rename (_ ≠ _ ∧ _) => o9'); k_dflt (refine CeEnd.intro (by assumption) (by assumption) _ mem_past4 ⟨⟨Ne.symm o9'.1, Ne.symm o9'.2.1, Ne.symm o9'.2.2.1, Ne.symm o9'.2.2.2.1⟩, by (simp only [Off4, and_true]; assumption)⟩ (by lcg_src) ?_))
  k_with "CompEnd" => k_dflt (refine LCg.CompEnd.intro (by assumption) (by assumption) _ (fun p hp => hp) (by first | assumption | (simp only [LCg.Off3, and_true]; assumption)) (by lcg_src) ?_)
  trivial
set_option maxHeartbeats 8000000 in
theorem law_rest1 (w : World) (mean : ExcName → Option Value) (mg mb : Str → Option Value) (loose : List Str) (base : Heap) (L fa : Addr) (cd : Value) (s : Shared) (m : Str → Option Value) (Q : Flow → Shared → Prop) (E : Value → Shared → Prop)
    (a b c : Int) (ta tb tc : Tok) (Ds : Addr) (o8 : Obj) (v8 : Option Value)
    (hB : Below callerA base [] base) (hX : (hd.heap_39 w.params).In base) (hT : Top topProg loose mean mg mb base) (hC : CodeHd base 49 45)
    (hF : Fr base L s.heap (fun z => if z = Str.ofString "shares" then some (.ref Ds) else m z)) (h8 : o8.data = .cell v8)
    (hN : News base L s.heap [(Ds, LCg.lst [.int a ta, .int b tb, .int c tc]), (L + 1, o8), (45, tabObj #[])])
    (ha : 0 ≤ a ∧ a < 27) (hb : 0 ≤ b ∧ b < 27) (hc : 0 ≤ c ∧ c < 27)
    (hE : PassesOwn (model PySem.Challenge.rw_wb0014_01.row.prog w) (callerA.deeper (envOfC (Str.ofString "law") lawScope L fa cd)) (envOfC (Str.ofString "law") lawScope L fa cd) E)
    (hQ : ∀ h' tk' m', Fr base L h' m' → GrownAt 45 h' → Q (.ret (.bool true)) { s with heap := h', toks := tk' }) :
    wpAny (model PySem.Challenge.rw_wb0014_01.row.prog w) (callerA.deeper (envOfC (Str.ofString "law") lawScope L fa cd)) (execs (lawBody.drop 1) (envOfC (Str.ofString "law") lawScope L fa cd)) Q E s := by
  revert hX
  k_fill
  intro hX
  with_unfolding_all show wpAny _ (callerA.deeper (envOfC (Str.ofString "law") (Scope.mk _ _ _ _ _) L fa cd)) (execs (_ :: _) (envOfC (Str.ofString "law") (Scope.mk _ _ _ _ _) L fa cd)) Q E s
  k_steps
  unfold Hold
  rename News _ _ _ _ => N2
  rename Fr _ _ _ _ => F2
  k_here
  k_dflt (refine store_C (pre := [_, _, _, _, _]) (post := [_]) (by rfl) (by rfl) (by rfl) F2 N2 (by assumption) (List.forall_mem_cons.mpr ⟨seq_no, List.forall_mem_cons.mpr ⟨seq_no, List.forall_mem_cons.mpr ⟨seq_no, List.forall_mem_cons.mpr ⟨seq_no, List.forall_mem_cons.mpr ⟨seq_no, List.forall_mem_nil _⟩⟩⟩⟩⟩) (List.forall_mem_cons.mpr ⟨fld_no, List.forall_mem_nil _⟩) ?_)
  clear N2 F2
  intro h8 o8 F8 N8 hd8
  simp only [List.cons_append, List.nil_append] at N8
  k_steps
  unfold Hold
  rename News _ _ _ _ => N5
  rename Fr _ _ _ _ => F5
  with_unfolding_all refine' law_rest (a := a) (b := b) (c := c) (fa := fa) (cd := cd) (E := E) (hB := hB) (hX := hX) (hT := hT) (hC := hC) (hF := F5) (h8 := hd8) (hN := ?hN) (ha := digs_of ha) (hb := digs_of hb) (hc := digs_of hc) (hn0 := rfl) (hn1 := rfl) (hn2 := rfl) (hn3 := rfl) (hE := hE) (hQ := hQ)
  case hN => exact kst_newsOf N5 (by lcg_sub)
end
end
-- part LH
section
open PySem PySem.Calls PyProof.Rows PySem.W
section
theorem linesLH : True := by
  w_top off
  k_with_none
  k_with "subscriptTail" => (k_here; (fail_if_success (with_reducible show wpAny _ _ (subscriptTail (PySem.Expr.Name _ _) _ _ _) _ _ _)); k_dflt (refine kba_turn (value' := PySem.Expr.Name (PySem.Str.ofString "_") ⟨0, 0, 0, 0⟩) (fun _ => rfl) ?_))
  k_with "FinA" => ((unfold LCg.FinA); intro _ _ _ _ N' o1'; (try simp only [LCg.Off1, and_true] at o1'); (try simp only [List.nil_append, List.cons_append] at N'); (try dsimp only); (revert N' o1'; intro _ _); refine Hold.out ?_)
  k_with "execs cons Assign cons" => (k_here; (with_reducible show wpAny _ _ (PySem.execs (Stmt.Assign [Expr.Name (Str.ofString "figures") _] _ _ :: _) _) _ _ _); refine Hold.out ?_)
  trivial
set_option maxHeartbeats 8000000 in
theorem law_ok : PySem.Challenge.rw_wb0014_01.Holds := Mine.hd (by
  k_go0
  k_steps
  unfold Hold
  k_steps
  unfold Hold
  rename IntsAre _ (List.map _ (List.take 3 _)) => hsh
  obtain ⟨a, b, c, ta, tb, tc, e9, ha, hb, hc⟩ := shares3 hsh
  rename News _ _ _ _ => N1
  rename Fr _ _ _ _ => F1
  rename Frag.In _ _ => X5
  rename Top _ _ _ _ _ _ => T5
  rename Below _ _ _ _ => B5
  rw [e9] at N1
  with_unfolding_all refine' law_rest1 (a := a) (b := b) (c := c) (hB := B5) (hX := X5) (hT := T5) (hC := codeHd) (hF := F1) (h8 := ?h8) (hN := ?hN) (ha := ha) (hb := hb) (hc := hc) (hE := ?hE) (hQ := ?hQ)
  case hN => exact kst_newsOf N1 (by lcg_sub)
  case h8 => assumption
  case hE => passes_own
  case hQ =>
    intro h9 tk9 m9 F9 G9
    exact And.intro (goodW_bool F9 (by assumption) (raisesW_false (by wrow_none_raised)) (postW_of (by wrow_shape) (w_eq_bool (w_res rfl) w_lit) rfl)) (And.intro G9 True.intro))
end
end
end Mine
set_option maxRecDepth 100000 in
set_option maxHeartbeats 8000000 in
theorem PySem.Challenge.cw_wb0014_01_holds : PySem.Challenge.rw_wb0014_01.Holds := by
  exact Mine.law_ok
