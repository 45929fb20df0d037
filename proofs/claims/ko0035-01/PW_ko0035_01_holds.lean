import PyProof.Rows.All
import Wide.All
import OpenK.AllK
import Wide.FinOn
import Lean
import PySem.Challenge.RW_ko0035_01
set_option Elab.async false
set_option linter.all false
noncomputable section
section
set_option maxRecDepth 100000
namespace Mine.HT
open PySem PySem.W
noncomputable section
abbrev stepQ := PySem.W.Fast.tw10156331382660048174
abbrev denQ := PySem.W.Fast.tw11892475500146522536
abbrev tabQ := PySem.W.Fast.tw14364793385576792824
theorem stepQ_eq (p : Program) (w : World) (s : SharedT) (t : Thread) : stepQ (denQ tabQ) p w s t = stepT (denote treeTable) p w s t := by
  rw [show stepQ = stepT from PySem.W.Fast.te10156331382660048174.symm, show denQ = denote from PySem.W.Fast.te11892475500146522536.symm, show tabQ = treeTable from PySem.W.Fast.te14364793385576792824.symm]
def impT (p : Program) (w : World) : Nat → SharedT → Thread → Option SharedT
  | 0, _, _ => none
  | n + 1, s, t => match t.atExitBegin with
    | some [] => some s
    | some (_ :: _) => none
    | none => match stepQ (denQ tabQ) p w s t with
      | some (s', t') => impT p w n s' t'
      | none => none
theorem impT_of {p : Program} {w : World} : ∀ {n : Nat} {s s' : SharedT} {t : Thread}, impT p w n s t = some s' → importEnds treeTable p w n s.abs t = some s'.abs
  | 0, _, _, _, h => by cases h
  | n + 1, s, s', t, h => by
    unfold impT at h
    unfold importEnds
    cases he : t.atExitBegin with
    | some x =>
      rw [he] at h
      cases x with
      | nil => cases h; rfl
      | cons _ _ => cases h
    | none =>
      rw [he] at h
      dsimp only at h ⊢
      rw [stepQ_eq] at h
      cases hs : stepT (denote treeTable) p w s t with
      | none => rw [hs] at h; cases h
      | some r => obtain ⟨s₂, t₂⟩ := r; rw [hs] at h; rw [stepT_spec hs]; exact impT_of h
def topT (p : Program) (w : World) (n₀ : Nat) (ann : Option Value) : Nat → SharedT → Thread → Option SharedT
  | 0, _, _ => none
  | n + 1, s, t => match through t with
    | true => some s
    | false => match stepOk n₀ ann t with
      | false => none
      | true => match stepQ (denQ tabQ) p w s t with
        | some (s', t') => topT p w n₀ ann n s' t'
        | none => none
theorem topT_of {p : Program} {w : World} {n₀ : Nat} {ann : Option Value} : ∀ {n : Nat} {s s' : SharedT} {t : Thread}, topT p w n₀ ann n s t = some s' → topRun treeTable p w n₀ ann n s.abs t = some s'.abs
  | 0, _, _, _, h => by cases h
  | n + 1, s, s', t, h => by
    unfold topT at h
    unfold topRun
    cases he : through t with
    | true => rw [he] at h; cases h; rfl
    | false =>
      rw [he] at h
      dsimp only at h ⊢
      cases hk : stepOk n₀ ann t with
      | false => rw [hk] at h; cases h
      | true =>
        rw [hk] at h
        dsimp only at h ⊢
        rw [stepQ_eq] at h
        cases hs : stepT (denote treeTable) p w s t with
        | none => rw [hs] at h; cases h
        | some r => obtain ⟨s₂, t₂⟩ := r; rw [hs] at h; rw [stepT_spec hs]; exact topT_of h
/-- the tree of a list of objects: at node (a, b) stands the one with number b -/
def tr (os : List Obj) : Nat → Nat → Nat → BT
  | 0, _, _ => .nil
  | f + 1, a, b => match os[b]? with
    | some o => .node o (tr os f (2 * a) (a + b)) (tr os f (2 * a) (2 * a + b))
    | none => .nil
theorem tr_get (os : List Obj) : ∀ (f a b i : Nat), 0 < a → i + 1 < 2 ^ f → (tr os f a b).get i = os[b + a * i]?
  | 0, a, b, i, _, h => by simp at h
  | f + 1, a, b, i, ha, h => by
    unfold tr
    cases e : os[b]? with
    | none =>
      rw [List.getElem?_eq_none_iff] at e
      rw [List.getElem?_eq_none (by have := Nat.zero_le (a * i); lia)]; rfl
    | some o =>
      dsimp only
      rw [BT.get_node]
      by_cases h0 : i = 0
      · subst h0; rw [if_pos rfl, Nat.mul_zero, Nat.add_zero, e]
      · rw [if_neg h0]
        by_cases h1 : i % 2 = 1
        · rw [if_pos h1, tr_get os f (2 * a) (a + b) (i / 2) (by lia) (by rw [Nat.pow_succ] at h; lia)]
          congr 1
          have : i = 2 * (i / 2) + 1 := by lia
          conv => rhs; rw [this]
          rw [Nat.mul_add, Nat.mul_one, Nat.mul_comm 2 a, Nat.mul_assoc]; lia
        · rw [if_neg h1, tr_get os f (2 * a) (2 * a + b) (i / 2 - 1) (by lia) (by rw [Nat.pow_succ] at h; lia)]
          congr 1
          have : i = 2 * (i / 2 - 1) + 2 := by lia
          conv => rhs; rw [this]
          rw [Nat.mul_add, Nat.mul_comm 2 a, Nat.mul_assoc]; lia
def toT (s : Shared) : SharedT := ⟨tr s.heap.objs.toList 16 1 0, s.heap.objs.toList.length, s.heap.life, s.gens, s.drawn, s.toks, s.os⟩
theorem toT_abs {s : Shared} (h : s.heap.objs.toList.length + 1 < 2 ^ 16) : (toT s).abs = s := by
  obtain ⟨⟨⟨l⟩, life⟩, g, d, t, o⟩ := s
  unfold toT SharedT.abs absHeap BT.list
  dsimp only at h ⊢
  have : (List.range l.length).map (fun i => ((tr l 16 1 0).get i).getD default) = l := by
    apply List.ext_getElem?
    intro i
    rw [List.getElem?_map]
    by_cases hi : i < l.length
    · rw [List.getElem?_range hi, Option.map_some, tr_get l 16 1 0 i (by lia) (by lia), Nat.zero_add, Nat.one_mul, List.getElem?_eq_getElem hi]; rfl
    · rw [List.getElem?_eq_none (by rw [List.length_range]; lia), List.getElem?_eq_none (by lia)]; rfl
  rw [this]
/-- the whole top, on trees -/
def endsT (p : Program) (w : World) (N : Nat) : Option Shared :=
  (impT (opening p) w N ⟨.nil, 0, {}, #[], {}, 1, (start (opening p)).1.os⟩ (start (opening p)).2).bind fun S => (fenceModules? p S.abs).bind fun s₀ =>
    match Nat.blt (s₀.heap.objs.toList.length + 1) 65536 && (s₀.heap.isNs mainGlobals && s₀.gens.size == 0) with
    | true => (topT p w s₀.heap.objs.size (s₀.heap.nsMap mainGlobals "__annotations__") N (toT s₀) (topStub p)).bind fun s₁ => match staticsOk (importedModules p.main.body) s₀.heap s₁.abs.heap && namesBound p s₁.abs.heap && gensDone s₁.abs && laidKept s₀.heap s₁.abs.heap with
      | true => some s₁.abs
      | false => none
    | false => none
theorem endsT_of {p : Program} {w : World} {N : Nat} {s : Shared} (h : endsT p w N = some s) : openEnds treeTable p w N = some s := by
  unfold endsT at h
  obtain ⟨S, h1, h2⟩ := Option.bind_eq_some_iff.mp h
  obtain ⟨s₀, h3, h4⟩ := Option.bind_eq_some_iff.mp h2
  unfold openEnds fencedOpening
  have e0 : (start (opening p)).1 = SharedT.abs ⟨.nil, 0, {}, #[], {}, 1, (start (opening p)).1.os⟩ := by
    unfold SharedT.abs absHeap BT.list start
    rfl
  have e : importEnds treeTable (opening p) w N (start (opening p)).1 (start (opening p)).2 = some S.abs := by rw [e0]; exact impT_of h1
  rw [e]
  show (fenceModules? p S.abs).bind _ = _
  rw [h3]
  show topFrom treeTable p w N s₀ = _
  unfold topFrom
  split at h4
  · rename_i hq
    rw [Bool.and_eq_true] at hq
    rw [hq.2]
    obtain ⟨s₁, h5, h6⟩ := Option.bind_eq_some_iff.mp h4
    have e2 := topT_of h5
    rw [toT_abs (by have := Nat.le_of_ble_eq_true hq.1; lia)] at e2
    dsimp only
    rw [e2]
    show (match _ with | true => _ | false => _) = _
    split at h6
    · rename_i hz
      exact h6
    · cases h6
  · cases h4
end
end Mine.HT
end
section
open PySem PySem.W PyProof.Rows
set_option maxRecDepth 1000000
set_option maxHeartbeats 8000000
namespace Mine
section
local macro_rules | `(tactic| o_head $_:term) => `(tactic| assumption)
/-- lays the written part of the heap, heap_1 -/
theorem mk (h : PySem.Challenge.rw_ko0035_01.row.Holds) : PySem.Challenge.rw_ko0035_01.row.Holds := by k_head
end
noncomputable def addrs : List Addr := [2, 3, 6, 11, 12, 55, 57, 58, 60, 61, 63, 65, 66, 68, 69, 70, 72, 73, 75, 76, 77, 79, 83, 87, 88, 89, 91, 92, 94, 95, 96, 98, 99, 101, 102, 103, 105, 106, 108, 109, 110, 112, 113, 115, 116, 120, 121, 122, 124, 125, 127, 128, 129, 131, 132, 134, 135, 136, 138, 139, 141, 142, 143, 146, 147, 148, 150, 151, 153, 154]
theorem addrs_eq (P : Params) : addrs = (mk.heap_1 P).map fun x => x.1 := by kernel_rfl
noncomputable def hook : Hook := kHook mk.heap_1 addrs addrs_eq
noncomputable def vw : Program := view PySem.Challenge.pw_ko0035_01 [0, 1, 2, 3, 5, 6, 7, 9, 10, 11, 12, 13, 14, 16, 17, 19, 20, 21, 23, 24, 25, 26]
def lse : List Str := ["_EPOCH_ORD", "MONTHS", "MONTHS_LOWER", "UTC_ZONES", "TIMEZONE_RE", "ISO_DATE_RE"]
def lvs : List (Str × WData) := [("_EPOCH_ORD", .int 719163)]
noncomputable def seenQ (s : Shared) := (PySem.W.Fast.tw4187177175401517315 vw lse (importedModules PySem.Challenge.pw_ko0035_01.main.body) (fun s => xlAt vw lvs s && recOk [] s) true s, hook.obs s)
/-- the rows of the world's that the top asks -/
theorem leftW (a b : Bool) (h : ∀ w : World, (HT.endsT PySem.Challenge.pw_ko0035_01 ((w.withFollow "comprehension-iter-twice" a).withFollow "special-get-raises" b) 3240).map seenQ = some (openGood vw lse, hook.val ((w.withFollow "comprehension-iter-twice" a).withFollow "special-get-raises" b)))
    (w : World) (ha : w.params.followText "comprehension-iter-twice" = a) (hb : w.params.followText "special-get-raises" = b) : (HT.endsT PySem.Challenge.pw_ko0035_01 w 3240).map seenQ = some (openGood vw lse, hook.val w) := by
  have := h w
  have e : ∀ (w : World) (row : String) (c : Bool), w.params.followText row = c → w.withFollow row c = w := fun w row c e => by rw [← e]; exact World.withFollow_self w row
  rw [e w _ a ha, e w _ b hb] at this
  exact this
theorem leftFF (w : World) : (HT.endsT PySem.Challenge.pw_ko0035_01 ((w.withFollow "comprehension-iter-twice" false).withFollow "special-get-raises" false) 3240).map seenQ = some (openGood vw lse, hook.val ((w.withFollow "comprehension-iter-twice" false).withFollow "special-get-raises" false)) := by kernel_rfl
theorem leftFT (w : World) : (HT.endsT PySem.Challenge.pw_ko0035_01 ((w.withFollow "comprehension-iter-twice" false).withFollow "special-get-raises" true) 3240).map seenQ = some (openGood vw lse, hook.val ((w.withFollow "comprehension-iter-twice" false).withFollow "special-get-raises" true)) := by kernel_rfl
theorem leftTF (w : World) : (HT.endsT PySem.Challenge.pw_ko0035_01 ((w.withFollow "comprehension-iter-twice" true).withFollow "special-get-raises" false) 3240).map seenQ = some (openGood vw lse, hook.val ((w.withFollow "comprehension-iter-twice" true).withFollow "special-get-raises" false)) := by kernel_rfl
theorem leftTT (w : World) : (HT.endsT PySem.Challenge.pw_ko0035_01 ((w.withFollow "comprehension-iter-twice" true).withFollow "special-get-raises" true) 3240).map seenQ = some (openGood vw lse, hook.val ((w.withFollow "comprehension-iter-twice" true).withFollow "special-get-raises" true)) := by kernel_rfl
theorem left : LeftO PySem.Challenge.pw_ko0035_01 vw lse (fun s => xlAt vw lvs s && recOk [] s) (kHook mk.heap_1 addrs addrs_eq).obs (kHook mk.heap_1 addrs addrs_eq).val 3240 := fun w => by
  have h : (HT.endsT PySem.Challenge.pw_ko0035_01 w 3240).map seenQ = some (openGood vw lse, hook.val w) := by
    cases ha : w.params.followText "comprehension-iter-twice" <;> cases hb : w.params.followText "special-get-raises"
    · exact leftW _ _ leftFF w ha hb
    · exact leftW _ _ leftFT w ha hb
    · exact leftW _ _ leftTF w ha hb
    · exact leftW _ _ leftTT w ha hb
  obtain ⟨s, h1, h2⟩ := Option.map_eq_some_iff.mp h
  rw [HT.endsT_of h1]
  unfold seenQ at h2
  rw [← PySem.W.Fast.te4187177175401517315] at h2
  exact congrArg some h2
theorem said : PySem.Challenge.rw_ko0035_01.wellSaid = true := by kernel_rfl
end Mine
end
section
set_option maxRecDepth 100000
namespace Mine.Rx
open PySem PySem.Sre

abbrev Marks := List (Option Nat)
inductive Cls where
  | digit | space | lit (n : Nat) | two (a b : Nat) | sep
def Cls.has : Cls → Nat → Bool
  | .digit, c => isDigit c
  | .space, c => isSpace c
  | .lit n, c => c == n
  | .two a b, c => c == a || c == b
  | .sep, c => c == 45 || c == 58 || c == 84 || c == 116
def Cls.words : Cls → List Nat
  | .digit => [13, 4, 8, 0, 0]
  | .space => [13, 4, 8, 2, 0]
  | .lit n => [16, n]
  | .two a b => [13, 6, 16, a, 16, b, 0]
  | .sep => [13, 11, 9, 0, 67117056, 1048576, 1048576, 0, 0, 0, 0, 0]
inductive Re where
  | at0 | at5 | mark (n : Nat) | chr (c : Cls) | rep (c : Cls) (lo hi : Nat) | opt (a : Re) | seq (a b : Re) | alt (a b : Re) | dead
def setMark (L : Marks) (n i : Nat) : Marks := (L ++ List.replicate (n + 1 - L.length) none).set n (some i)
def repm (c : Cls) (k : List Nat → Nat → Marks → Option Marks) : Nat → Nat → List Nat → Nat → Marks → Option Marks
  | lo, hi, x :: r, i, L =>
    if 0 < hi ∧ c.has x = true then (repm c k (lo - 1) (hi - 1) r (i + 1) L).or (if lo = 0 then k (x :: r) i L else none)
    else if lo = 0 then k (x :: r) i L else none
  | lo, _, [], i, L => if lo = 0 then k [] i L else none
def Re.mt : Re → (List Nat → Nat → Marks → Option Marks) → List Nat → Nat → Marks → Option Marks
  | .at0, k, r, i, L => if i = 0 then k r i L else none
  | .at5, k, r, i, L => if r = [] ∨ r = [10] then k r i L else none
  | .mark n, k, r, i, L => k r i (setMark L n i)
  | .chr c, k, r, i, L => match r with
    | x :: r' => if c.has x = true then k r' (i + 1) L else none
    | [] => none
  | .rep c lo hi, k, r, i, L => repm c k lo hi r i L
  | .opt a, k, r, i, L => (a.mt k r i L).or (k r i L)
  | .seq a b, k, r, i, L => a.mt (b.mt k) r i L
  | .alt a b, k, r, i, L => (a.mt k r i L).or (b.mt k r i L)
  | .dead, _, _, _, _ => none

def wordsAt (code : Array Nat) : Nat → List Nat → Bool
  | _, [] => true
  | i, w :: r => Nat.blt i code.size && code.getD i 0 == w && wordsAt code (i + 1) r
theorem wordsAt_cons {code : Array Nat} {i w : Nat} {r : List Nat} (h : wordsAt code i (w :: r) = true) : i < code.size ∧ code.getD i 0 = w ∧ wordsAt code (i + 1) r = true := by
  simp only [wordsAt, Bool.and_eq_true, beq_iff_eq] at h
  exact ⟨Nat.lt_of_lt_of_le (Nat.le_of_ble_eq_true h.1.1) (Nat.le_refl _), h.1.2, h.2⟩

/-- the code from i on is the text r; its end -/
def Re.chk (code : Array Nat) : Re → Nat → Option Nat
  | .at0, i => if wordsAt code i [6, 0] then some (i + 2) else none
  | .at5, i => if wordsAt code i [6, 5] then some (i + 2) else none
  | .mark n, i => if wordsAt code i [17, n] then some (i + 2) else none
  | .chr c, i => if wordsAt code i c.words then some (i + c.words.length) else none
  | .rep c lo hi, i => if wordsAt code i (24 :: (c.words.length + 4) :: lo :: hi :: c.words) && decide (lo ≤ hi) then some (i + c.words.length + 5) else none
  | .opt a, i => match a.chk code (i + 4) with
    | some e => if wordsAt code i [23, e - i - 1, 0, 1] && wordsAt code e [18] && decide (i + 4 ≤ e) then some (e + 1) else none
    | none => none
  | .seq a b, i => match a.chk code i with
    | some e => b.chk code e
    | none => none
  -- a branch: its chain begins behind the word
  | .alt a b, i => match a.chk code (i + 2) with
    | some e => if wordsAt code i [7, e + 1 - i] && wordsAt code e [15] && decide (i + 2 ≤ e) then
        (match chain b (e + 2) with
         | some z => if wordsAt code (e + 1) [z - (e + 1)] && decide (e + 1 ≤ z) then some z else none
         | none => none)
      else none
    | none => none
  | .dead, _ => none
where
  /-- the chain of alternatives at p; its end -/
  chain : Re → Nat → Option Nat
  | .alt a b, p => match a.chk code (p + 1) with
    | some e => if wordsAt code p [e + 2 - p] && wordsAt code e [15] && decide (p + 1 ≤ e) then
        (match chain b (e + 2) with
         | some z => if wordsAt code (e + 1) [z - (e + 1)] && decide (e + 1 ≤ z) then some z else none
         | none => none)
      else none
    | none => none
  | .dead, p => if wordsAt code p [0] then some (p + 1) else none
  | _, _ => none
end Mine.Rx
end
section
set_option maxRecDepth 100000
namespace Mine.Rx
open PySem PySem.Sre

def steps : Nat → M → M
  | 0, m => m
  | n + 1, m => steps n m.step
theorem steps_add (a b : Nat) (m : M) : steps (a + b) m = steps b (steps a m) := by
  induction a generalizing m with
  | zero => rw [Nat.zero_add]; rfl
  | succ a ih => rw [Nat.succ_add]; exact ih m.step

/-- the loops round a place: each has begun its one turn -/
def Chain (ls : Array Loop) : Option Nat → List Nat → Prop
  | none, [] => True
  | some i, pc :: ctx => ∃ l, ls[i]? = some l ∧ l.pc = pc ∧ l.count = 0 ∧ (∀ o, l.outer = some o → o < i) ∧ Chain ls l.outer ctx
  | _, _ => False
def plainWait : Wait → Bool
  | .nextStart | .nextBranch | .giveBack | .closeLoop | .maxMore | .maxTail => true
  | _ => false
def MarksAre (g : Nat) (m : M) (L : Marks) : Prop := m.lastmark = (L.length : Int) - 1 ∧ L.length ≤ g ∧ m.marks.size = g ∧ ∀ j, j < L.length → m.marks[j]? = L[j]?

structure At (g : Nat) (code text : Array Nat) (m : M) (pc : Nat) (r : List Nat) (i : Nat) (L : Marks) (ctx : List Nat) : Prop where
  hcode : m.code = code
  htext : m.text = text
  hlim : m.lim = text.size
  hpc : m.pc = pc
  hpos : m.pos = i
  rest : text.toList.drop i = r
  le : i ≤ text.size
  ans : m.answer = none
  out : m.outcome = none
  outer : m.outermost = true
  whole : m.wholeText = false
  must : m.mustAdvance = false
  marks : MarksAre g m L
  chain : Chain m.loops m.inner ctx
  frames : m.frames.all (fun f => plainWait f.wait) = true

def Wins (g N : Nat) (m : M) (L : Marks) : Prop :=
  ∃ n m', n ≤ N ∧ steps n m = m' ∧ m'.answer = some true ∧ m'.outcome = none ∧ MarksAre g m' L ∧ m'.frames.all (fun f => plainWait f.wait) = true ∧ m'.frames.length ≤ m.frames.length + N
structure Lost (b : Nat) (m m' : M) : Prop where
  ans : m'.answer = some false
  out : m'.outcome = none
  code : m'.code = m.code
  text : m'.text = m.text
  lim : m'.lim = m.lim
  last : m'.lastStart = m.lastStart
  whole : m'.wholeText = m.wholeText
  must : m'.mustAdvance = m.mustAdvance
  loops : m'.loops = m.loops
  inner : m'.inner = m.inner
  frames : m'.frames = m.frames
  weight : m'.weight = m.weight
  size : m'.marks.size = m.marks.size
  low : ∀ j : Nat, j < b → (j : Int) ≤ m.lastmark → m'.marks[j]? = m.marks[j]?
def Does (g N b : Nat) (m : M) : Option Marks → Prop
  | some L => Wins g N m L
  | none => ∃ n m', n ≤ N ∧ steps n m = m' ∧ Lost b m m'

theorem Wins.mono {g N N' : Nat} {m : M} {L : Marks} (h : Wins g N m L) (hN : N ≤ N') : Wins g N' m L := by
  obtain ⟨n, m', h1, h2, h3, h4, h5, h6, h7⟩ := h
  exact ⟨n, m', by lia, h2, h3, h4, h5, h6, by lia⟩
theorem Does.mono {g N N' b : Nat} {m : M} {r : Option Marks} (h : Does g N b m r) (hN : N ≤ N') : Does g N' b m r := by
  cases r with
  | some L => exact Wins.mono h hN
  | none =>
    obtain ⟨n, m', h1, h2, h3⟩ := h
    exact ⟨n, m', by lia, h2, h3⟩
theorem Lost.low_mono {b b' : Nat} {m m' : M} (h : Lost b m m') (hb : b' ≤ b) : Lost b' m m' := { h with low := fun j hj => h.low j (by lia) }
theorem Does.low {g N b b' : Nat} {m : M} {r : Option Marks} (h : Does g N b m r) (hb : b' ≤ b) : Does g N b' m r := by
  cases r with
  | some L => exact h
  | none =>
    obtain ⟨n, m', h1, h2, h3⟩ := h
    exact ⟨n, m', h1, h2, h3.low_mono hb⟩

/-- one step that neither changes the frames nor the loops -/
theorem Does.step {g N b : Nat} {m m₁ : M} {r : Option Marks} (e : m.step = m₁) (hf : m₁.frames = m.frames) (hl : ∀ m', Lost b m₁ m' → Lost b m m') (h : Does g N b m₁ r) : Does g (N + 1) b m r := by
  cases r with
  | some L =>
    obtain ⟨n, m', h1, h2, h3, h4, h5, h6, h7⟩ := h
    exact ⟨n + 1, m', by lia, by rw [← h2, ← e]; rfl, h3, h4, h5, h6, by rw [hf] at h7; lia⟩
  | none =>
    obtain ⟨n, m', h1, h2, h3⟩ := h
    exact ⟨n + 1, m', by lia, by rw [← h2, ← e]; rfl, hl m' h3⟩
/-- one step that pushes a frame; what comes of its loss is told apart -/
theorem Does.push {g N N' b b' : Nat} {m m₁ : M} {f : Sre.Frame} {r r' : Option Marks} (e : m.step = m₁) (hf : m₁.frames = f :: m.frames) (h : Does g N b m₁ r)
    (lost : r = none → ∀ m₂, Lost b m₁ m₂ → Does g N' b' m₂.step r' ∧ m₂.step.frames = m.frames ∧ ∀ m', Lost b' m₂.step m' → Lost b' m m') (won : ∀ L, r = some L → r' = some L) : Does g (N + N' + 2) b' m r' := by
  cases r with
  | some L =>
    obtain ⟨n, m', h1, h2, h3, h4, h5, h6, h7⟩ := h
    rw [won L rfl]
    exact ⟨n + 1, m', by lia, by rw [← h2, ← e]; rfl, h3, h4, h5, h6, by rw [hf, List.length_cons] at h7; lia⟩
  | none =>
    obtain ⟨n, m₂, h1, h2, h3⟩ := h
    obtain ⟨h4, h6, h5⟩ := lost rfl m₂ h3
    have e2 : steps (n + 2) m = m₂.step := by
      rw [show n + 2 = 1 + (n + 1) by lia, steps_add 1]
      show steps (n + 1) m.step = _
      rw [e, steps_add n 1, h2]; rfl
    cases r' with
    | some L =>
      obtain ⟨k, m', q1, q2, q3, q4, q5, q6, q7⟩ := h4
      exact ⟨n + 2 + k, m', by lia, by rw [steps_add, e2, q2], q3, q4, q5, q6, by rw [h6] at q7; lia⟩
    | none =>
      obtain ⟨k, m', q1, q2, q3⟩ := h4
      exact ⟨n + 2 + k, m', by lia, by rw [steps_add, e2, q2], h5 m' q3⟩

section
variable {g : Nat} {code text : Array Nat} {m : M} {pc i : Nat} {r : List Nat} {L : Marks} {ctx : List Nat}
theorem At.step (h : At g code text m pc r i L ctx) (hp : pc < code.size) : m.step = m.exec := by
  unfold M.step
  rw [h.out, h.ans]
  simp only [Option.isSome_none, Bool.false_eq_true, if_false]
  rw [h.hcode, h.hpc, if_pos hp]
theorem At.word (h : At g code text m pc r i L ctx) (k : Nat) : m.word k = code.getD (pc + k) 0 := by
  unfold M.word; rw [h.hcode, h.hpc]
theorem drop_cons {l : List Nat} {i x : Nat} {r : List Nat} (h : l.drop i = x :: r) : l.drop (i + 1) = r ∧ i < l.length ∧ l[i]? = some x := by
  have h1 : i < l.length := by
    rcases Nat.lt_or_ge i l.length with h1 | h1
    · exact h1
    · rw [List.drop_eq_nil_of_le h1] at h; cases h
  rw [List.drop_eq_getElem_cons h1] at h
  have := List.cons.inj h
  exact ⟨this.2, h1, by rw [List.getElem?_eq_getElem h1, this.1]⟩
theorem At.cons (h : At g code text m pc (x :: r) i L ctx) : text.toList.drop (i + 1) = r ∧ i < text.size ∧ text.getD i 0 = x := by
  obtain ⟨a, b, c⟩ := drop_cons h.rest
  rw [Array.length_toList] at b
  refine ⟨a, b, ?_⟩
  rw [Array.getElem?_toList] at c
  rw [Array.getD_eq_getD_getElem?, c]; rfl
theorem At.nil (h : At g code text m pc [] i L ctx) : i = text.size := by
  have := h.rest
  rw [List.drop_eq_nil_iff, Array.length_toList] at this
  have := h.le; lia
end

theorem inSet_fail {code : Array Nat} {c f i : Nat} {yes : Bool} {seen : Seen} (h : code.getD i 0 = 0) : ∃ s', inSet code c (f + 1) i yes seen = .ok (!yes, s') := by
  unfold inSet
  simp -iota only [Nat.add_zero, h]
  rw [show ops[0]? = some .FAILURE from rfl]
  exact ⟨_, rfl⟩
theorem inSet_lit {code : Array Nat} {c f i n : Nat} {yes : Bool} {seen : Seen} (h : code.getD i 0 = 16) (h1 : code.getD (i + 1) 0 = n) : ∃ s', inSet code c (f + 1) i yes seen = if c == n then .ok (yes, s') else inSet code c f (i + 2) yes s' := by
  conv => enter [1, s', 1]; unfold inSet
  simp -iota only [Nat.add_zero, h]
  rw [show ops[16]? = some .LITERAL from rfl]
  simp -iota only [h1]
  exact ⟨_, rfl⟩
theorem inSet_cat {code : Array Nat} {c f i n : Nat} {yes b : Bool} {seen : Seen} (h : code.getD i 0 = 8) (h1 : code.getD (i + 1) 0 = n) (hb : category n c = .ok b) : ∃ s', inSet code c (f + 1) i yes seen = if b = true then .ok (yes, s') else inSet code c f (i + 2) yes s' := by
  conv => enter [1, s', 1]; unfold inSet
  simp -iota only [Nat.add_zero, h]
  rw [show ops[8]? = some .CATEGORY from rfl]
  simp -iota only [h1, hb]
  exact ⟨_, rfl⟩
theorem inSet_set {code : Array Nat} {c f i : Nat} {yes : Bool} {seen : Seen} (h : code.getD i 0 = 9) : ∃ s', inSet code c (f + 1) i yes seen = if (decide (c < 256) && (code.getD (i + (1 + c / 32)) 0).testBit (c % 32)) = true then .ok (yes, s') else inSet code c f (i + 9) yes s' := by
  conv => enter [1, s', 1]; unfold inSet
  simp -iota only [Nat.add_zero, h]
  rw [show ops[9]? = some .CHARSET from rfl]
  exact ⟨_, rfl⟩
theorem words_getD {code : Array Nat} : ∀ {l : List Nat} {i : Nat} (j : Nat), wordsAt code i l = true → j < l.length → code.getD (i + j) 0 = l.getD j 0
  | [], _, _, _, h => absurd h (Nat.not_lt_zero _)
  | w :: r, i, 0, h, _ => (wordsAt_cons h).2.1
  | w :: r, i, j + 1, h, hj => by
    rw [show i + (j + 1) = i + 1 + j from (Nat.add_right_comm i 1 j).symm]
    exact words_getD j (wordsAt_cons h).2.2 (Nat.lt_of_succ_lt_succ hj)
theorem words_fit {code : Array Nat} : ∀ {r : List Nat} {w i : Nat}, wordsAt code i (w :: r) = true → i + r.length < code.size
  | [], _, _, h => (wordsAt_cons h).1
  | w :: r, _, i, h => by
    have := words_fit (wordsAt_cons h).2.2
    rw [List.length_cons, show i + (r.length + 1) = i + 1 + r.length from (Nat.add_right_comm i 1 r.length).symm]
    exact this
theorem sep_tab : ∀ x : Fin 256, (decide (x.val < 256) && Nat.testBit ([13, 11, 9, 0, 67117056, 1048576, 1048576, 0, 0, 0, 0, 0].getD (3 + x.val / 32) 0) (x.val % 32)) = Cls.sep.has x.val := by decide +kernel
theorem fuel {n m : Nat} (h : n < m) : ∃ k, m = k + n := ⟨m - n, (Nat.sub_add_cancel (Nat.le_of_lt h)).symm⟩
theorem into_set {code : Array Nat} {i x : Nat} {seen : Seen} (e : code.getD i 0 = 13) : accepts code i x seen = inSet code x code.size (i + 2) true seen := by
  unfold accepts
  rw [e]
  rfl
/-- a set of one class -/
theorem one_cat {code : Array Nat} {i x n : Nat} {b : Bool} (seen : Seen) (h : wordsAt code i [13, 4, 8, n, 0] = true) (hb : category n x = .ok b) : ∃ seen', accepts code i x seen = .ok (b, seen') := by
  obtain ⟨k, hk⟩ := fuel (n := 2) (Nat.lt_of_le_of_lt (Nat.le_trans (by decide) (Nat.le_add_left 4 i)) (words_fit h))
  rw [into_set (show code.getD i 0 = 13 from words_getD 0 h (by decide : 0 < 5)), hk]
  obtain ⟨s1, e1⟩ := inSet_cat (c := x) (f := k + 1) (yes := true) (b := b) (seen := seen) (words_getD 2 h (by decide : 2 < 5)) (words_getD 3 h (by decide : 3 < 5)) hb
  obtain ⟨s2, e2⟩ := inSet_fail (c := x) (f := k) (yes := true) (seen := s1) (words_getD 4 h (by decide : 4 < 5))
  rw [e1]
  cases b with
  | true => exact ⟨_, if_pos rfl⟩
  | false => exact ⟨_, (if_neg Bool.false_ne_true).trans e2⟩
/-- what one item takes -/
theorem accepts_is {code : Array Nat} {c : Cls} {i : Nat} (h : wordsAt code i c.words = true) (x : Nat) (seen : Seen) : ∃ seen', accepts code i x seen = .ok (c.has x, seen') := by
  cases c with
  | lit n =>
    have h0 : code.getD i 0 = 16 := words_getD 0 h (by decide : 0 < 2)
    have h1 : code.getD (i + 1) 0 = n := words_getD 1 h (by decide : 1 < 2)
    unfold accepts
    rw [h0]
    simp -iota only [h1]
    exact ⟨_, rfl⟩
  | digit => exact one_cat seen h (by show (Except.ok (isDigit x != false) : Except String Bool) = _; rw [Bool.bne_false]; rfl)
  | space => exact one_cat seen h (by show (Except.ok (isSpace x != false) : Except String Bool) = _; rw [Bool.bne_false]; rfl)
  | two a b =>
    obtain ⟨k, hk⟩ := fuel (n := 3) (Nat.lt_of_le_of_lt (Nat.le_trans (by decide) (Nat.le_add_left 6 i)) (words_fit h))
    rw [into_set (show code.getD i 0 = 13 from words_getD 0 h (by decide : 0 < 7)), hk]
    obtain ⟨s1, e1⟩ := inSet_lit (c := x) (f := k + 1 + 1) (yes := true) (seen := seen) (n := a) (words_getD 2 h (by decide : 2 < 7)) (words_getD 3 h (by decide : 3 < 7))
    obtain ⟨s2, e2⟩ := inSet_lit (c := x) (f := k + 1) (yes := true) (seen := s1) (n := b) (words_getD 4 h (by decide : 4 < 7)) (words_getD 5 h (by decide : 5 < 7))
    obtain ⟨s3, e3⟩ := inSet_fail (c := x) (f := k) (yes := true) (seen := s2) (words_getD 6 h (by decide : 6 < 7))
    rw [e1]
    show ∃ seen', _ = Except.ok ((x == a || x == b), seen')
    cases hx : x == a with
    | true => exact ⟨_, if_pos rfl⟩
    | false =>
      refine Exists.imp (fun _ q => (if_neg Bool.false_ne_true).trans q) ?_
      rw [e2]
      cases hy : x == b with
      | true => exact ⟨s2, if_pos rfl⟩
      | false => exact ⟨s3, (if_neg Bool.false_ne_true).trans e3⟩
  | sep =>
    obtain ⟨k, hk⟩ := fuel (n := 2) (Nat.lt_of_le_of_lt (Nat.le_trans (by decide) (Nat.le_add_left 11 i)) (words_fit h))
    rw [into_set (show code.getD i 0 = 13 from words_getD 0 h (by decide)), hk]
    obtain ⟨s1, e1⟩ := inSet_set (c := x) (f := k + 1) (yes := true) (seen := seen) (words_getD 2 h (by decide))
    obtain ⟨s2, e2⟩ := inSet_fail (c := x) (f := k) (yes := true) (seen := s1) (words_getD 11 h (by decide))
    rw [e1]
    have hb : (decide (x < 256) && (code.getD (i + 2 + (1 + x / 32)) 0).testBit (x % 32)) = Cls.sep.has x := by
      rcases Nat.lt_or_ge x 256 with hx | hx
      · rw [show code.getD (i + 2 + (1 + x / 32)) 0 = _ from (congrArg (fun z => code.getD z 0) (show i + 2 + (1 + x / 32) = i + (3 + x / 32) by lia)).trans (words_getD (3 + x / 32) h (by show 3 + x / 32 < 12; lia))]
        exact sep_tab ⟨x, hx⟩
      · have : Cls.sep.has x = false := by simp only [Cls.has, Bool.or_eq_false_iff, beq_eq_false_iff_ne]; lia
        rw [this, decide_eq_false (Nat.not_lt.mpr hx)]; rfl
    rw [hb]
    cases hx : Cls.sep.has x with
    | true => exact ⟨_, if_pos rfl⟩
    | false => exact ⟨_, (if_neg Bool.false_ne_true).trans e2⟩
end Mine.Rx
end
section
set_option maxRecDepth 100000
namespace Mine.Rx
open PySem PySem.Sre
theorem exec6 {m : M} {k : Nat} {b : Bool} (h0 : m.word 0 = 6) (h1 : m.word 1 = k) (h : M.isAt { m with seen := m.seen.add 6 } k = .ok b) : m.exec = (if b = true then { m with seen := (m.seen.add 6).add (43 + k), pc := m.pc + 2 } else M.say { m with seen := (m.seen.add 6).add (43 + k) } false) := by
  subst h1
  unfold M.exec
  rw [h0, show ops[6]? = some .AT from rfl]
  show (match M.isAt { m with seen := m.seen.add 6 } (m.word 1) with | .error why => _ | .ok yes => _) = _
  rw [h]
  rfl
theorem exec1 {m : M} (h0 : m.word 0 = 1) (hw : m.wholeText = false) (hm : m.mustAdvance = false) : m.exec = ({ m with seen := m.seen.add 1, handed := m.pos } : M).say true := by
  unfold M.exec
  rw [h0, show ops[1]? = some .SUCCESS from rfl]
  refine Eq.trans (if_neg ?_) rfl
  show ¬ ((m.outermost && ((m.wholeText && m.pos != m.lim) || (m.mustAdvance && m.pos == m.start))) = true)
  rw [hw, hm]
  show ¬ ((m.outermost && false) = true)
  rw [Bool.and_false]
  exact Bool.false_ne_true
section
variable {g : Nat} {code text : Array Nat} {m : M} {pc i : Nat} {r : List Nat} {L : Marks} {ctx : List Nat}

theorem words_width {c : Cls} (h : wordsAt code pc c.words = true) : itemWidth code pc = c.words.length := by
  cases c <;> simp only [Cls.words, wordsAt, Bool.and_eq_true, beq_iff_eq] at h <;> obtain ⟨⟨-, h0⟩, ⟨-, h1⟩, -⟩ := h <;> unfold itemWidth <;> rw [h0]
  · show 1 + code.getD (pc + 1) 0 = _; rw [h1]; rfl
  · show 1 + code.getD (pc + 1) 0 = _; rw [h1]; rfl
  · rfl
  · show 1 + code.getD (pc + 1) 0 = _; rw [h1]; rfl
  · show 1 + code.getD (pc + 1) 0 = _; rw [h1]; rfl
theorem words_lt {c : Cls} (h : wordsAt code pc c.words = true) : pc < code.size := by
  cases c <;> simp only [Cls.words, wordsAt, Bool.and_eq_true, Nat.blt_eq] at h <;> exact h.1.1

theorem exec_item {c : Cls} (h : wordsAt code pc c.words = true) (A : At g code text m pc r i L ctx) : ∃ s0, m.exec = (if i ≥ text.size then { m with seen := s0 }.say false else
    match accepts code pc (text.getD i 0) s0 with
    | .error why => { m with seen := s0 }.stick why
    | .ok (false, seen) => { m with seen := seen }.say false
    | .ok (true, seen) => { m with seen := seen, pc := pc + c.words.length, pos := i + 1 }) := by
  have hw := words_width h
  have h0 : m.word 0 = 13 ∨ m.word 0 = 16 := by
    rw [A.word, Nat.add_zero]
    cases c <;> simp only [Cls.words, wordsAt, Bool.and_eq_true, beq_iff_eq] at h <;> simp [h.1.2]
  refine ⟨m.seen.add (m.word 0), ?_⟩
  unfold M.exec
  rcases h0 with h0 | h0
  · rw [h0, show ops[13]? = some .IN from rfl]
    simp only [A.hpos, A.hlim, A.hcode, A.htext, A.hpc, hw]
    rfl
  · rw [h0, show ops[16]? = some .LITERAL from rfl]
    simp only [A.hpos, A.hlim, A.hcode, A.htext, A.hpc, hw]
    rfl
theorem does_chr {c : Cls} {N b : Nat} {k : List Nat → Nat → Marks → Option Marks} (h : wordsAt code pc c.words = true) (A : At g code text m pc r i L ctx)
    (hk : ∀ m' r', At g code text m' (pc + c.words.length) r' (i + 1) L ctx → m'.weight = m.weight → Does g N b m' (k r' (i + 1) L)) : Does g (N + 1) b m ((Re.chr c).mt k r i L) := by
  obtain ⟨s0, e⟩ := exec_item h A
  have hs := A.step (words_lt h)
  cases r with
  | nil =>
    rw [if_pos (Nat.le_of_eq A.nil.symm)] at e
    exact ⟨1, _, by lia, rfl, by show Lost b m m.step; rw [hs, e]; exact ⟨rfl, A.out, rfl, rfl, rfl, rfl, rfl, rfl, rfl, rfl, rfl, rfl, rfl, fun _ _ _ => rfl⟩⟩
  | cons x r =>
    obtain ⟨h1, h2, h3⟩ := A.cons
    rw [if_neg (by lia), h3] at e
    obtain ⟨s1, e1⟩ := accepts_is h x s0
    rw [e1] at e
    show Does g (N + 1) b m (if c.has x = true then k r (i + 1) L else none)
    cases hx : c.has x with
    | false =>
      rw [hx] at e
      exact ⟨1, _, by lia, rfl, by show Lost b m m.step; rw [hs, e]; exact ⟨rfl, A.out, rfl, rfl, rfl, rfl, rfl, rfl, rfl, rfl, rfl, rfl, rfl, fun _ _ _ => rfl⟩⟩
    | true =>
      rw [hx] at e
      rw [if_pos rfl]
      refine Does.step (hs.trans e) rfl (fun m' l => ⟨l.ans, l.out, l.code, l.text, l.lim, l.last, l.whole, l.must, l.loops, l.inner, l.frames, l.weight, l.size, l.low⟩) (hk _ r ?_ rfl)
      exact ⟨A.hcode, A.htext, A.hlim, rfl, rfl, h1, h2, A.ans, A.out, A.outer, A.whole, A.must, A.marks, A.chain, A.frames⟩

theorem does_at0 {N b : Nat} {k : List Nat → Nat → Marks → Option Marks} (h : wordsAt code pc [6, 0] = true) (A : At g code text m pc r i L ctx)
    (hk : ∀ m', At g code text m' (pc + 2) r i L ctx → m'.weight = m.weight → Does g N b m' (k r i L)) : Does g (N + 1) b m (Re.at0.mt k r i L) := by
  obtain ⟨h1, h2, h3⟩ := wordsAt_cons h
  obtain ⟨h4, h5, -⟩ := wordsAt_cons h3
  have hs := A.step h1
  have e : m.exec = if (i == 0) = true then { m with seen := (m.seen.add 6).add 43, pc := pc + 2 } else { m with seen := (m.seen.add 6).add 43 }.say false := by
    rw [exec6 (k := 0) (b := i == 0) (by rw [A.word, Nat.add_zero, h2]) (by rw [A.word, h5]) (by show Except.ok (m.pos == 0) = _; rw [A.hpos]), A.hpc]
  show Does g (N + 1) b m (if i = 0 then k r i L else none)
  by_cases hi : i = 0
  · rw [if_pos hi]
    rw [if_pos (by simpa using hi)] at e
    refine Does.step (hs.trans e) rfl (fun m' l => ⟨l.ans, l.out, l.code, l.text, l.lim, l.last, l.whole, l.must, l.loops, l.inner, l.frames, l.weight, l.size, l.low⟩) (hk _ ?_ rfl)
    exact ⟨A.hcode, A.htext, A.hlim, rfl, A.hpos, A.rest, A.le, A.ans, A.out, A.outer, A.whole, A.must, A.marks, A.chain, A.frames⟩
  · rw [if_neg hi]
    rw [if_neg (by simpa using hi)] at e
    exact ⟨1, _, by lia, rfl, by show Lost b m m.step; rw [hs, e]; exact ⟨rfl, A.out, rfl, rfl, rfl, rfl, rfl, rfl, rfl, rfl, rfl, rfl, rfl, fun _ _ _ => rfl⟩⟩
theorem does_at5 {N b : Nat} {k : List Nat → Nat → Marks → Option Marks} (h : wordsAt code pc [6, 5] = true) (A : At g code text m pc r i L ctx)
    (hk : ∀ m', At g code text m' (pc + 2) r i L ctx → m'.weight = m.weight → Does g N b m' (k r i L)) : Does g (N + 1) b m (Re.at5.mt k r i L) := by
  obtain ⟨h1, h2, h3⟩ := wordsAt_cons h
  obtain ⟨h4, h5, -⟩ := wordsAt_cons h3
  have hs := A.step h1
  have e : m.exec = if (i == text.size || (i + 1 == text.size && text.getD i 0 == 10)) = true then { m with seen := (m.seen.add 6).add 48, pc := pc + 2 } else { m with seen := (m.seen.add 6).add 48 }.say false := by
    rw [exec6 (k := 5) (b := i == text.size || (i + 1 == text.size && text.getD i 0 == 10)) (by rw [A.word, Nat.add_zero, h2]) (by rw [A.word, h5]) (by show Except.ok (m.pos == m.lim || (m.pos + 1 == m.lim && m.text.getD m.pos 0 == 10)) = _; rw [A.hpos, A.hlim, A.htext]), A.hpc]
  have hi : (i == text.size || (i + 1 == text.size && text.getD i 0 == 10)) = decide (r = [] ∨ r = [10]) := by
    cases r with
    | nil => rw [beq_iff_eq.mpr A.nil]; simp
    | cons x r =>
      obtain ⟨q1, q2, q3⟩ := A.cons
      rw [q3]
      have : (r = []) ↔ i + 1 = text.size := by
        rw [← q1, List.drop_eq_nil_iff, Array.length_toList]; lia
      simp only [List.cons.injEq, reduceCtorEq, false_or, this, Bool.decide_and]
      rw [show (i == text.size) = false by simp; lia, Bool.false_or, Bool.and_comm]
      rfl
  rw [hi] at e
  show Does g (N + 1) b m (if r = [] ∨ r = [10] then k r i L else none)
  by_cases hr : r = [] ∨ r = [10]
  · rw [if_pos hr]
    rw [if_pos (by simpa using hr)] at e
    refine Does.step (hs.trans e) rfl (fun m' l => ⟨l.ans, l.out, l.code, l.text, l.lim, l.last, l.whole, l.must, l.loops, l.inner, l.frames, l.weight, l.size, l.low⟩) (hk _ ?_ rfl)
    exact ⟨A.hcode, A.htext, A.hlim, rfl, A.hpos, A.rest, A.le, A.ans, A.out, A.outer, A.whole, A.must, A.marks, A.chain, A.frames⟩
  · rw [if_neg hr]
    rw [if_neg (by simpa using hr)] at e
    exact ⟨1, _, by lia, rfl, by show Lost b m m.step; rw [hs, e]; exact ⟨rfl, A.out, rfl, rfl, rfl, rfl, rfl, rfl, rfl, rfl, rfl, rfl, rfl, fun _ _ _ => rfl⟩⟩
end
end Mine.Rx
end
section
set_option maxRecDepth 100000
namespace Mine.Rx
open PySem PySem.Sre
/-- the marks between the last one and the new one are struck -/
theorem clear_get (lm : Int) (n : Nat) (a : Array (Option Nat)) : ((List.range n).foldl (fun (a : Array (Option Nat)) (j : Nat) => if (j : Int) > lm then a.setIfInBounds j none else a) a).size = a.size ∧
    ∀ j, ((List.range n).foldl (fun (a : Array (Option Nat)) (j : Nat) => if (j : Int) > lm then a.setIfInBounds j none else a) a)[j]? = if j < n ∧ (j : Int) > lm ∧ j < a.size then some none else a[j]? := by
  induction n with
  | zero => exact ⟨rfl, fun j => by rw [if_neg (by lia)]; rfl⟩
  | succ n ih =>
    rw [List.range_succ, List.foldl_append]
    obtain ⟨h1, h2⟩ := ih
    simp only [List.foldl_cons, List.foldl_nil]
    refine ⟨by split <;> simp [h1], fun j => ?_⟩
    by_cases hn : (n : Int) > lm
    · rw [if_pos hn, Array.getElem?_setIfInBounds, h1, h2]
      by_cases hj : n = j
      · subst hj
        by_cases hs : n < a.size
        · simp [hs, hn]
        · rw [if_pos rfl, if_neg hs, if_neg (by lia), Array.getElem?_eq_none (by lia)]
      · rw [if_neg hj]
        by_cases hq : j < n ∧ (j : Int) > lm ∧ j < a.size
        · rw [if_pos hq, if_pos (by lia)]
        · rw [if_neg hq, if_neg (by lia)]
    · rw [if_neg hn, h2]
      by_cases hq : j < n ∧ (j : Int) > lm ∧ j < a.size
      · rw [if_pos hq, if_pos (by lia)]
      · rw [if_neg hq, if_neg (by lia)]
section
variable {g : Nat} {code text : Array Nat} {m : M} {pc i : Nat} {r : List Nat} {L : Marks} {ctx : List Nat}
theorem marks_mark {n : Nat} (h : MarksAre g m L) (hn : n < g) (hp : m.pos = i) : MarksAre g (m.mark n) (setMark L n i) ∧ ∀ j : Nat, j < n → (j : Int) ≤ m.lastmark → (m.mark n).marks[j]? = m.marks[j]? := by
  obtain ⟨h1, h2, h3, h4⟩ := h
  obtain ⟨c1, c2⟩ := clear_get m.lastmark n m.marks
  have key : ∃ c : Array (Option Nat), (m.mark n).marks = c.setIfInBounds n (some i) ∧ c.size = g ∧ ∀ j, j < n → c[j]? = if (j : Int) > m.lastmark then some none else m.marks[j]? := by
    unfold M.mark
    by_cases hc : (n : Int) ≤ m.lastmark + 1
    · refine ⟨m.marks, by simp only [if_pos hc, hp], h3, fun j hj => by rw [if_neg (by lia)]⟩
    · refine ⟨_, by simp only [if_neg hc, hp], c1.trans h3, fun j hj => ?_⟩
      rw [c2]
      by_cases hq : (j : Int) > m.lastmark
      · rw [if_pos (by lia), if_pos hq]
      · rw [if_neg (by lia), if_neg hq]
  obtain ⟨c, k1, k2, k3⟩ := key
  have hl : (m.mark n).lastmark = max m.lastmark n := rfl
  have hlen : (setMark L n i).length = max L.length (n + 1) := by simp [setMark]; lia
  refine ⟨⟨by rw [hl, h1, hlen]; lia, by rw [hlen]; lia, by rw [k1, Array.size_setIfInBounds, k2], fun j hj => ?_⟩, fun j hj hm => ?_⟩
  · rw [k1, Array.getElem?_setIfInBounds, k2]
    rw [hlen] at hj
    unfold setMark
    rw [List.getElem?_set]
    by_cases hjn : n = j
    · subst hjn
      rw [if_pos rfl, if_pos hn, if_pos rfl, if_pos (by simp; lia)]
    · rw [if_neg hjn, if_neg hjn]
      by_cases hjl : j < L.length
      · rw [List.getElem?_append_left hjl, ← h4 j hjl]
        by_cases hlt : j < n
        · rw [k3 j hlt, if_neg (by lia)]
        · -- behind n: nothing was struck
          have : (m.mark n).marks[j]? = m.marks[j]? := by
            unfold M.mark
            have hc : (n : Int) ≤ m.lastmark + 1 := by lia
            simp only [if_pos hc, hp]
            rw [Array.getElem?_setIfInBounds_ne hjn]
          rw [k1, Array.getElem?_setIfInBounds_ne hjn] at this
          exact this
      · rw [List.getElem?_append_right (by lia), k3 j (by lia), if_pos (by lia), List.getElem?_replicate, if_pos (by lia)]
  · rw [k1, Array.getElem?_setIfInBounds_ne (by lia), k3 j hj, if_neg (by lia)]

theorem does_mark {n N b : Nat} {k : List Nat → Nat → Marks → Option Marks} (h : wordsAt code pc [17, n] = true) (hn : n < g) (hb : b ≤ n) (A : At g code text m pc r i L ctx)
    (hk : ∀ m', At g code text m' (pc + 2) r i (setMark L n i) ctx → m'.weight = m.weight → Does g N b m' (k r i (setMark L n i))) : Does g (N + 1) b m ((Re.mark n).mt k r i L) := by
  obtain ⟨h1, h2, h3⟩ := wordsAt_cons h
  obtain ⟨h4, h5, -⟩ := wordsAt_cons h3
  have hs := A.step h1
  have e : m.exec = ({ m with seen := m.seen.add 17 } : M).mark n := by
    unfold M.exec
    rw [A.word, Nat.add_zero, h2, show ops[17]? = some .MARK from rfl]
    simp only [M.word, A.hcode, A.hpc, h5]
  obtain ⟨q1, q2⟩ := marks_mark (m := { m with seen := m.seen.add 17 }) (i := i) (n := n) A.marks hn A.hpos
  refine Does.step (hs.trans e) rfl (fun m' l => ⟨l.ans, l.out, l.code, l.text, l.lim, l.last, l.whole, l.must, l.loops, l.inner, l.frames, l.weight, l.size.trans (q1.2.2.1.trans A.marks.2.2.1.symm), fun j hj hm => (l.low j hj (by
    show (j : Int) ≤ max m.lastmark n
    lia)).trans (q2 j (by lia) hm)⟩) (hk _ ?_ rfl)
  exact ⟨A.hcode, A.htext, A.hlim, by show m.pc + 2 = _; rw [A.hpc], A.hpos, A.rest, A.le, A.ans, A.out, A.outer, A.whole, A.must, q1, A.chain, A.frames⟩
end
end Mine.Rx
end
section
set_option maxRecDepth 100000
namespace Mine.Rx
open PySem PySem.Sre
def cnt (c : Cls) : Nat → List Nat → Nat
  | n + 1, x :: r => if c.has x = true then cnt c n r + 1 else 0
  | _, _ => 0
theorem cnt_le (c : Cls) : ∀ (n : Nat) (r : List Nat), cnt c n r ≤ n ∧ cnt c n r ≤ r.length
  | 0, r => by simp [cnt]
  | n + 1, [] => by simp [cnt]
  | n + 1, x :: r => by
    have := cnt_le c n r
    unfold cnt
    split <;> simp only [List.length_cons] <;> lia
theorem cnt_min (c : Cls) : ∀ (n : Nat) (r : List Nat), cnt c (min n r.length) r = cnt c n r
  | 0, r => by rw [Nat.zero_min]
  | n + 1, [] => by simp [cnt]
  | n + 1, x :: r => by
    rw [show min (n + 1) (x :: r).length = min n r.length + 1 by simp only [List.length_cons]; lia]
    unfold cnt
    rw [cnt_min c n r]
def down {α : Type} (f : Nat → Option α) (lo : Nat) : Nat → Option α
  | 0 => f 0
  | c + 1 => (f (c + 1)).or (if c < lo then none else down f lo c)
theorem down_shift {α : Type} (f : Nat → Option α) (lo n : Nat) : ((if n < lo - 1 then none else down (fun c => f (c + 1)) (lo - 1) n).or (if lo = 0 then f 0 else none)) = if n + 1 < lo then none else down f lo (n + 1) := by
  induction n with
  | zero =>
    by_cases h0 : lo = 0
    · subst h0; simp [down]
    · by_cases h1 : lo = 1
      · subst h1; simp [down]
      · rw [if_pos (by lia), if_neg h0, if_pos (by lia)]; rfl
  | succ n ih =>
    by_cases h : n + 2 < lo
    · rw [if_pos (by lia), if_neg (by lia), if_pos h]; rfl
    · rw [if_neg (by lia), if_neg h]
      show ((f (n + 2)).or (if n < lo - 1 then none else down (fun c => f (c + 1)) (lo - 1) n)).or _ = (f (n + 2)).or (if n + 1 < lo then none else down f lo (n + 1))
      rw [Option.or_assoc, ih]
theorem repm_down (c : Cls) (k : List Nat → Nat → Marks → Option Marks) : ∀ (r : List Nat) (lo hi i : Nat) (L : Marks), repm c k lo hi r i L = if cnt c hi r < lo then none else down (fun n => k (r.drop n) (i + n) L) lo (cnt c hi r)
  | [], lo, hi, i, L => by
    have : cnt c hi [] = 0 := by cases hi <;> rfl
    rw [this]
    unfold repm
    by_cases h : lo = 0
    · subst h; rfl
    · rw [if_neg h, if_pos (by lia)]
  | x :: r, lo, hi, i, L => by
    unfold repm
    cases hi with
    | zero =>
      rw [if_neg (by lia)]
      show _ = if 0 < lo then _ else _
      by_cases h : lo = 0
      · subst h; rfl
      · rw [if_neg h, if_pos (by lia)]
    | succ hi =>
      by_cases hx : c.has x = true
      · rw [if_pos ⟨by lia, hx⟩, repm_down c k r]
        have e : cnt c (hi + 1) (x :: r) = cnt c hi r + 1 := by show (if c.has x = true then _ else _) = _; rw [if_pos hx]
        rw [e, ← down_shift, show hi + 1 - 1 = hi from rfl]
        simp only [List.drop_succ_cons, List.drop_zero, Nat.add_zero, Nat.add_assoc, Nat.add_comm 1]
      · rw [if_neg (fun h => hx h.2)]
        have e : cnt c (hi + 1) (x :: r) = 0 := by show (if c.has x = true then _ else _) = _; rw [if_neg hx]
        rw [e]
        by_cases h : lo = 0
        · subst h; rfl
        · rw [if_neg h, if_pos (by lia)]
theorem run_is {code text : Array Nat} {c : Cls} {i : Nat} (h : wordsAt code i c.words = true) : ∀ (n p found : Nat) (seen : Seen), n ≤ (text.toList.drop p).length → ∃ s', Sre.run code text i n p found seen = .ok (found + cnt c n (text.toList.drop p), s')
  | 0, p, found, seen, _ => ⟨seen, by cases text.toList.drop p <;> rfl⟩
  | n + 1, p, found, seen, hn => by
    cases hd : text.toList.drop p with
    | nil => rw [hd] at hn; simp at hn
    | cons x r =>
      obtain ⟨d1, d2, d3⟩ := drop_cons hd
      obtain ⟨s1, e1⟩ := accepts_is h x seen
      have hx : text.getD p 0 = x := by
        rw [Array.getElem?_toList] at d3
        rw [Array.getD_eq_getD_getElem?, d3]; rfl
      unfold Sre.run cnt
      rw [hx, e1]
      cases hc : c.has x with
      | false => exact ⟨s1, rfl⟩
      | true =>
        obtain ⟨s2, e2⟩ := run_is h n (p + 1) (found + 1) s1 (by rw [d1]; rw [hd] at hn; simpa using hn)
        refine ⟨s2, ?_⟩
        rw [d1] at e2
        show Sre.run code text i n (p + 1) (found + 1) s1 = _
        rw [e2]
        simp only [if_true]
        rw [show found + 1 + cnt c n r = found + (cnt c n r + 1) by lia]

/-- as Does, told of another state's frames and loops -/
def DoesB (g N b : Nat) (m₀ m : M) : Option Marks → Prop
  | some L => ∃ n m', n ≤ N ∧ steps n m = m' ∧ m'.answer = some true ∧ m'.outcome = none ∧ MarksAre g m' L ∧ m'.frames.all (fun f => plainWait f.wait) = true ∧ m'.frames.length ≤ m₀.frames.length + N
  | none => ∃ n m', n ≤ N ∧ steps n m = m' ∧ Lost b m₀ m'
theorem DoesB.of_step {g N b : Nat} {m₀ m : M} {r : Option Marks} (h : DoesB g N b m₀ m.step r) : DoesB g (N + 1) b m₀ m r := by
  cases r with
  | some L =>
    obtain ⟨n, m', h1, h2, h3, h4, h5, h6, h7⟩ := h
    exact ⟨n + 1, m', by lia, h2, h3, h4, h5, h6, by lia⟩
  | none =>
    obtain ⟨n, m', h1, h2, h3⟩ := h
    exact ⟨n + 1, m', by lia, h2, h3⟩
theorem DoesB.to {g N b : Nat} {m : M} {r : Option Marks} (h : DoesB g N b m m r) : Does g N b m r := by
  cases r <;> exact h
theorem DoesB.mono {g N N' b : Nat} {m₀ m : M} {r : Option Marks} (h : DoesB g N b m₀ m r) (hN : N ≤ N') : DoesB g N' b m₀ m r := by
  cases r with
  | some L =>
    obtain ⟨n, m', h1, h2, h3, h4, h5, h6, h7⟩ := h
    exact ⟨n, m', by lia, h2, h3, h4, h5, h6, by lia⟩
  | none =>
    obtain ⟨n, m', h1, h2, h3⟩ := h
    exact ⟨n, m', by lia, h2, h3⟩
theorem DoesB.base {g N b : Nat} {m₀ m₁ m : M} {r : Option Marks} (h : DoesB g N b m₀ m r) (hf : m₁.frames.length = m₀.frames.length) (hl : ∀ m', Lost b m₀ m' → Lost b m₁ m') : DoesB g N b m₁ m r := by
  cases r with
  | some L =>
    obtain ⟨n, m', h1, h2, h3, h4, h5, h6, h7⟩ := h
    exact ⟨n, m', h1, h2, h3, h4, h5, h6, by rw [hf]; exact h7⟩
  | none =>
    obtain ⟨n, m', h1, h2, h3⟩ := h
    exact ⟨n, m', h1, h2, hl _ h3⟩
/-- a frame is pushed: the winner wins, the loser comes back to it -/
theorem DoesB.pushed {g N N' b b' : Nat} {m₀ m₁ : M} {f : Sre.Frame} {r r' : Option Marks} (hf : m₁.frames = f :: m₀.frames) (h : Does g N b m₁ r)
    (lost : ∀ m₂, Lost b m₁ m₂ → DoesB g N' b' m₀ m₂.step r') : DoesB g (N + N' + 1) b' m₀ m₁ (r.or r') := by
  cases r with
  | some L =>
    obtain ⟨n, m', h1, h2, h3, h4, h5, h6, h7⟩ := h
    exact ⟨n, m', by lia, h2, h3, h4, h5, h6, by rw [hf, List.length_cons] at h7; lia⟩
  | none =>
    obtain ⟨n, m₂, h1, h2, h3⟩ := h
    have e2 : steps (n + 1) m₁ = m₂.step := by rw [steps_add n 1, h2]; rfl
    rw [Option.none_or]
    have := lost m₂ h3
    cases r' with
    | some L =>
      obtain ⟨k, m', q1, q2, q3, q4, q5, q6, q7⟩ := this
      exact ⟨n + 1 + k, m', by lia, by rw [steps_add, e2, q2], q3, q4, q5, q6, by lia⟩
    | none =>
      obtain ⟨k, m', q1, q2, q3⟩ := this
      exact ⟨n + 1 + k, m', by lia, by rw [steps_add, e2, q2], q3⟩
/-- the state that a frame hands back -/
theorem resume_step {m : M} {f : Sre.Frame} {rest : List Sre.Frame} {yes : Bool} (ha : m.answer = some yes) (ho : m.outcome = none) (hf : m.frames = f :: rest) :
    m.step = M.resume { m with answer := none, frames := rest, weight := m.weight - (1 + f.kept.marks.size), pc := f.pc, pos := f.pos, outermost := f.outermost } f yes := by
  unfold M.step
  rw [ho, ha, hf]
  rfl
end Mine.Rx
end
section
set_option maxRecDepth 100000
namespace Mine.Rx
open PySem PySem.Sre
structure KeptOk (b g : Nat) (K : Sre.Kept) (L : Marks) : Prop where
  last : K.lastmark = (L.length : Int) - 1
  size : K.marks.size ≤ g
  whole : K.whole = true → K.marks.size = L.length ∧ ∀ j, j < L.length → K.marks[j]? = L[j]?
  bare : K.whole = false → L.length ≤ b
theorem keep_ok {b g : Nat} {m : M} {L : Marks} {w : Bool} (h : MarksAre g m L) (hw : w = false → L.length ≤ b) : KeptOk b g (m.keep w) L := by
  obtain ⟨h1, h2, h3, h4⟩ := h
  have hn : (m.lastmark + 1).toNat = L.length := by rw [h1]; lia
  refine ⟨h1, ?_, fun e => ?_, fun e => hw e⟩
  · unfold M.keep
    cases w
    · exact Nat.zero_le _
    · simp only [if_true, hn, Array.size_extract]; lia
  · have e : w = true := e
    subst e
    unfold M.keep
    simp only [if_true, hn]
    refine ⟨by rw [Array.size_extract]; lia, fun j hj => ?_⟩
    rw [Array.getElem?_extract, if_pos (by lia), Nat.zero_add, h4 j hj]
theorem putBack_ok {b g : Nat} {X m : M} {K : Sre.Kept} {L : Marks} (h : MarksAre g X L) (k : KeptOk b g K L) (hs : m.marks.size = X.marks.size) (hl : ∀ j : Nat, j < b → (j : Int) ≤ X.lastmark → m.marks[j]? = X.marks[j]?) :
    MarksAre g (m.putBack K) L ∧ (∀ j : Nat, j < b → (j : Int) ≤ X.lastmark → (m.putBack K).marks[j]? = X.marks[j]?) := by
  obtain ⟨h1, h2, h3, h4⟩ := h
  have key : (m.putBack K).marks.size = g ∧ ∀ j, j < L.length → (m.putBack K).marks[j]? = L[j]? := by
    unfold M.putBack
    cases hw : K.whole with
    | true =>
      obtain ⟨k1, k2⟩ := k.whole hw
      simp only [if_true]
      refine ⟨by rw [Array.size_append, Array.size_extract]; lia, fun j hj => ?_⟩
      rw [Array.getElem?_append_left (by lia), k2 j hj]
    | false =>
      have := k.bare hw
      simp only [Bool.false_eq_true, if_false]
      exact ⟨by lia, fun j hj => by rw [hl j (by lia) (by lia), h4 j hj]⟩
  exact ⟨⟨k.last, h2, key.1, key.2⟩, fun j hj hm => by rw [key.2 j (by lia), h4 j (by lia)]⟩

section
variable {g : Nat} {code text : Array Nat} {m : M} {pc i : Nat} {r : List Nat} {L : Marks} {ctx : List Nat}
theorem afterRun_is {X : M} {K : Sre.Kept} {c pc' b : Nat} (hp : X.pc + 1 + X.word 1 = pc') (hw : X.weight + 1 + g ≤ 16777216) (hk : KeptOk b g K L) :
    X.afterRun .giveBack c K = { X with frames := { wait := .giveBack, pc := X.pc, pos := X.pos, outermost := X.outermost, count := c, kept := K } :: X.frames, weight := X.weight + 1 + K.marks.size, pc := pc', pos := X.pos, handed := X.pos, outermost := X.outermost } := by
  unfold M.afterRun M.attempt
  have := hk.size
  rw [if_neg (by show ¬ (X.weight + 1 + K.marks.size > 16777216); lia), hp]
  rfl
/-- trying a Sre.run of c items, and fewer -/
theorem does_down {N b lo W : Nat} {K : Sre.Kept} {f : Nat → Option Marks} {pc' : Nat} (hpc' : pc + 1 + code.getD (pc + 1) 0 = pc') (hlo : code.getD (pc + 2) 0 = lo) (hK : KeptOk b g K L) (hW : W + 1 + g ≤ 16777216) (hr : text.toList.drop i = r)
    (hk : ∀ m c, At g code text m pc' (r.drop c) (i + c) L ctx → m.weight ≤ W + 1 + g → Does g N b m (f c)) :
    ∀ (c : Nat) (X : M), lo ≤ c → At g code text X pc (r.drop c) (i + c) L ctx → X.weight ≤ W → DoesB g ((c + 1) * (N + 3)) b X (X.afterRun .giveBack c K) (down f lo c) := by
  intro c
  induction c with
  | zero =>
    intro X hc A hx
    obtain rfl : lo = 0 := by lia
    have e := afterRun_is (X := X) (K := K) (c := 0) (pc' := pc') (g := g) (by rw [A.word, A.hpc, hpc']) (by lia) hK
    have hd := hk (X.afterRun .giveBack (0 : Nat) K) 0 (by rw [e]; exact ⟨A.hcode, A.htext, A.hlim, rfl, A.hpos, A.rest, A.le, A.ans, A.out, A.outer, A.whole, A.must, A.marks, A.chain, A.frames⟩) (by rw [e]; have := hK.size; show X.weight + 1 + K.marks.size ≤ _; lia)
    have : down f 0 0 = (f 0).or none := by simp [down]
    rw [this]
    refine (DoesB.pushed (N' := 1) (r' := none) (m₀ := X) (by rw [e]) hd fun m₂ l => ?_).mono (by lia)
    have l' := l
    rw [e] at l'
    refine ⟨0, _, by lia, rfl, ?_⟩
    rw [resume_step l'.ans l'.out l'.frames]
    unfold M.resume
    simp only [Bool.false_eq_true, if_false]
    have hw : ({ m₂ with answer := none, frames := X.frames, weight := m₂.weight - (1 + K.marks.size), pc := X.pc, pos := X.pos, outermost := X.outermost } : M).word 2 = 0 := by
      unfold M.word; simp only [l'.code, A.hcode, A.hpc, hlo]
    rw [hw, if_pos (by lia)]
    obtain ⟨-, p2⟩ := putBack_ok (m := m₂) A.marks hK l'.size (fun j hj hm => l'.low j hj hm)
    exact ⟨rfl, l'.out, l'.code, l'.text, l'.lim, l'.last, l'.whole, l'.must, l'.loops, l'.inner, rfl, by show m₂.weight - _ = _; rw [l'.weight]; show X.weight + 1 + K.marks.size - _ = _; lia,
      by rw [show X.marks.size = g from A.marks.2.2.1]; exact (putBack_ok (m := m₂) A.marks hK l'.size (fun j hj hm => l'.low j hj hm)).1.2.2.1, p2⟩
  | succ c ih =>
    intro X hc A hx
    have e := afterRun_is (X := X) (K := K) (c := c + 1) (pc' := pc') (g := g) (by rw [A.word, A.hpc, hpc']) (by lia) hK
    have hd := hk (X.afterRun .giveBack ((c + 1 : Nat) : Int) K) (c + 1) (by rw [e]; exact ⟨A.hcode, A.htext, A.hlim, rfl, A.hpos, A.rest, A.le, A.ans, A.out, A.outer, A.whole, A.must, A.marks, A.chain, A.frames⟩) (by rw [e]; have := hK.size; show X.weight + 1 + K.marks.size ≤ _; lia)
    show DoesB g _ b X _ ((f (c + 1)).or (if c < lo then none else down f lo c))
    have hm : (c + 1 + 1) * (N + 3) = N + ((c + 1) * (N + 3) + 1) + 1 + 1 := by rw [Nat.succ_mul (c + 1)]; lia
    rw [hm]
    refine (DoesB.pushed (N' := (c + 1) * (N + 3) + 1) (m₀ := X) (by rw [e]) hd fun m₂ l => ?_).mono (by lia)
    have l' := l
    rw [e] at l'
    rw [resume_step l'.ans l'.out l'.frames]
    unfold M.resume
    simp only [Bool.false_eq_true, if_false]
    have hw : ({ m₂ with answer := none, frames := X.frames, weight := m₂.weight - (1 + K.marks.size), pc := X.pc, pos := X.pos, outermost := X.outermost } : M).word 2 = lo := by
      unfold M.word; simp only [l'.code, A.hcode, A.hpc, hlo]
    obtain ⟨p1, p2⟩ := putBack_ok (m := m₂) A.marks hK l'.size (fun j hj hm => l'.low j hj hm)
    have hwt : m₂.weight - (1 + K.marks.size) = X.weight := by rw [l'.weight]; show X.weight + 1 + K.marks.size - _ = _; lia
    rw [hw]
    by_cases hlt : c < lo
    · rw [if_pos hlt, if_pos (by lia)]
      exact ⟨0, _, by lia, rfl, ⟨rfl, l'.out, l'.code, l'.text, l'.lim, l'.last, l'.whole, l'.must, l'.loops, l'.inner, rfl, hwt, p1.2.2.1.trans A.marks.2.2.1.symm, p2⟩⟩
    · rw [if_neg hlt, if_neg (by lia)]
      have hc1 : ((c + 1 : Nat) : Int) - 1 = (c : Int) := by lia
      have hpos : X.pos - 1 = i + c := by rw [A.hpos]; lia
      simp only [hc1, hpos]
      have AX := A
      refine ((ih _ (by lia) ?_ ?_).mono (by lia)).base rfl ?_
      · refine ⟨l'.code.trans A.hcode, l'.text.trans A.htext, l'.lim.trans A.hlim, A.hpc, rfl, ?_, by have := A.le; lia, rfl, l'.out, A.outer, l'.whole.trans A.whole, l'.must.trans A.must, p1, ?_, A.frames⟩
        · rw [← hr, List.drop_drop]
        · show Chain m₂.loops m₂.inner ctx
          rw [l'.loops, l'.inner]; exact A.chain
      · show m₂.weight - _ ≤ W
        lia
      · intro m' q
        exact ⟨q.ans, q.out, q.code.trans l'.code, q.text.trans l'.text, q.lim.trans l'.lim, q.last.trans l'.last, q.whole.trans l'.whole, q.must.trans l'.must, q.loops.trans l'.loops, q.inner.trans l'.inner, q.frames, q.weight.trans hwt, q.size.trans (p1.2.2.1.trans A.marks.2.2.1.symm),
          fun j hj hm => (q.low j hj (by show (j : Int) ≤ K.lastmark; rw [hK.last]; have := A.marks.1; lia)).trans (p2 j hj hm)⟩
theorem exec24 {m : M} (h0 : m.word 0 = 24) : m.exec = if (m.word 2 : Int) > (m.lim : Int) - m.pos then ({ m with seen := m.seen.add 24 } : M).say false else
    match Sre.run m.code m.text (m.pc + 4) (min (m.word 3) ((m.lim : Int) - m.pos).toNat) m.pos 0 ((m.seen.add 24).add (m.word 4)) with
    | .error why => ({ m with seen := m.seen.add 24 } : M).stick why
    | .ok (n, seen) => if n < m.word 2 then ({ m with seen := seen } : M).say false else
      ({ m with seen := seen, pos := m.pos + n } : M).afterRun .giveBack n (({ m with seen := seen, pos := m.pos + n } : M).keep m.inner.isSome) := by
  unfold M.exec
  rw [h0, show ops[24]? = some .REPEAT_ONE from rfl]
  rfl
theorem does_rep {c : Cls} {lo hi N b W : Nat} {k : List Nat → Nat → Marks → Option Marks} (h : wordsAt code pc (24 :: (c.words.length + 4) :: lo :: hi :: c.words) = true) (hlh : lo ≤ hi) (hW : W + 1 + g ≤ 16777216) (hb : ctx = [] → L.length ≤ b)
    (A : At g code text m pc r i L ctx) (hm : m.weight ≤ W)
    (hk : ∀ m r i, At g code text m (pc + c.words.length + 5) r i L ctx → m.weight ≤ W + 1 + g → Does g N b m (k r i L)) : Does g ((min hi r.length + 1) * (N + 3) + 1) b m ((Re.rep c lo hi).mt k r i L) := by
  obtain ⟨h1, h2, h3⟩ := wordsAt_cons h
  obtain ⟨-, h4, h5⟩ := wordsAt_cons h3
  obtain ⟨-, h6, h7⟩ := wordsAt_cons h5
  obtain ⟨-, h8, h9⟩ := wordsAt_cons h7
  have hs := A.step h1
  have hlen : text.size - i = r.length := by rw [← A.rest, List.length_drop, Array.length_toList]
  obtain ⟨s1, e1⟩ := run_is (text := text) (c := c) (code := code) (i := pc + 4) (by rw [show pc + 4 = pc + 1 + 1 + 1 + 1 by lia]; exact h9) (min hi r.length) i 0 ((m.seen.add 24).add (code.getD (pc + 4) 0)) (by rw [A.rest]; exact Nat.min_le_right _ _)
  rw [A.rest, cnt_min, Nat.zero_add] at e1
  obtain ⟨c1, c2⟩ := cnt_le c hi r
  have hx : m.exec = if (lo : Int) > (r.length : Int) then ({ m with seen := m.seen.add 24 } : M).say false else
      if cnt c hi r < lo then ({ m with seen := s1 } : M).say false else ({ m with seen := s1, pos := i + cnt c hi r } : M).afterRun .giveBack (cnt c hi r) (({ m with seen := s1, pos := i + cnt c hi r } : M).keep m.inner.isSome) := by
    rw [exec24 (by rw [A.word, Nat.add_zero, h2])]
    have hroom : (m.lim : Int) - m.pos = (r.length : Int) := by rw [A.hlim, A.hpos]; have := A.le; lia
    rw [A.word, A.word, A.word, hroom, Int.toNat_natCast, show pc + 2 = pc + 1 + 1 by lia, h6, show pc + 3 = pc + 1 + 1 + 1 by lia, h8, A.hcode, A.htext, A.hpc, A.hpos, e1]
  show Does g _ b m (repm c k lo hi r i L)
  rw [repm_down]
  refine (DoesB.to (DoesB.of_step (N := (min hi r.length + 1) * (N + 3)) ?_))
  rw [hs, hx]
  have lost : ∀ s : Seen, DoesB g ((min hi r.length + 1) * (N + 3)) b m (({ m with seen := s } : M).say false) none := fun s =>
    ⟨0, _, by lia, rfl, ⟨rfl, A.out, rfl, rfl, rfl, rfl, rfl, rfl, rfl, rfl, rfl, rfl, rfl, fun _ _ _ => rfl⟩⟩
  by_cases hl1 : (lo : Int) > (r.length : Int)
  · rw [if_pos hl1, if_pos (by lia)]
    exact lost _
  rw [if_neg hl1]
  by_cases hl2 : cnt c hi r < lo
  · rw [if_pos hl2, if_pos hl2]
    exact lost _
  rw [if_neg hl2, if_neg hl2]
  have hX : At g code text ({ m with seen := s1, pos := i + cnt c hi r } : M) pc (r.drop (cnt c hi r)) (i + cnt c hi r) L ctx :=
    ⟨A.hcode, A.htext, A.hlim, A.hpc, rfl, by rw [← A.rest, List.drop_drop], by have := A.le; lia, A.ans, A.out, A.outer, A.whole, A.must, A.marks, A.chain, A.frames⟩
  have hK : KeptOk b g (({ m with seen := s1, pos := i + cnt c hi r } : M).keep m.inner.isSome) L := keep_ok (m := { m with seen := s1, pos := i + cnt c hi r }) A.marks fun hn => hb (by
    have := A.chain
    cases hin : m.inner with
    | none => rw [hin] at this; cases ctx <;> first | rfl | exact this.elim
    | some _ => rw [hin] at hn; cases hn)
  have hd := does_down (g := g) (code := code) (text := text) (pc := pc) (i := i) (r := r) (L := L) (ctx := ctx) (N := N) (lo := lo) (W := W) (f := fun n => k (r.drop n) (i + n) L) (pc' := pc + c.words.length + 5)
    (by rw [h4]; lia) (by rw [show pc + 2 = pc + 1 + 1 by lia]; exact h6) hK hW A.rest (fun m' n a w => hk m' _ _ a w) (cnt c hi r) _ (by lia) hX hm
  refine (DoesB.base (m₁ := m) hd rfl fun m' q => ⟨q.ans, q.out, q.code, q.text, q.lim, q.last, q.whole, q.must, q.loops, q.inner, q.frames, q.weight, q.size, q.low⟩).mono ?_
  exact Nat.mul_le_mul_right _ (by lia)
end
end Mine.Rx
end
section
set_option maxRecDepth 100000
namespace Mine.Rx
open PySem PySem.Sre
theorem chain_lt {ls : Array Loop} {o : Option Nat} {ctx : List Nat} (h : Chain ls o ctx) : ∀ i, o = some i → i < ls.size := by
  intro i e
  subst e
  cases ctx with
  | nil => exact h.elim
  | cons pc ctx =>
    obtain ⟨l, h1, -⟩ := h
    exact (Array.getElem?_eq_some_iff.mp h1).1
theorem chain_ext {ls ls' : Array Loop} : ∀ {ctx : List Nat} {o : Option Nat}, Chain ls o ctx → (∀ i, i < ls.size → ls'[i]? = ls[i]?) → Chain ls' o ctx
  | [], none, _, _ => trivial
  | [], some _, h, _ => h.elim
  | _ :: _, none, h, _ => h.elim
  | pc :: ctx, some i, h, e => by
    obtain ⟨l, h1, h2, h3, h4, h5⟩ := h
    exact ⟨l, (e i (Array.getElem?_eq_some_iff.mp h1).1).trans h1, h2, h3, h4, chain_ext h5 e⟩
theorem exec23 {m : M} (h0 : m.word 0 = 23) (hw : m.weight + 1 ≤ 16777216) : m.exec = { m with
    seen := m.seen.add 23, loops := m.loops.push { pc := m.pc, outer := m.inner }, inner := some m.loops.size,
    frames := { wait := .closeLoop, pc := m.pc, pos := m.pos, outermost := m.outermost, loop := m.loops.size } :: m.frames, weight := m.weight + 1, pc := m.pc + 1 + m.word 1, handed := m.pos } := by
  unfold M.exec
  rw [h0, show ops[23]? = some .REPEAT from rfl]
  show M.attempt _ _ _ _ _ = _
  unfold M.attempt
  rw [if_neg (by show ¬ (m.weight + 1 + 0 > 16777216); lia)]
  rfl
theorem exec18_first {m : M} {j : Nat} {l : Loop} (h0 : m.word 0 = 18) (hi : m.inner = some j) (hl : m.loops[j]? = some l) (hc : l.count = -1) (hb : l.began = none) (h2 : m.code.getD (l.pc + 2) 0 = 0) (h3 : m.code.getD (l.pc + 3) 0 = 1)
    (hw : m.weight + 1 + (m.keep true).marks.size ≤ 16777216) : m.exec = { m with
      seen := m.seen.add 18, loops := m.loops.modify j fun l => { l with count := 0, began := some m.pos },
      frames := { wait := .maxMore, pc := m.pc + 1, pos := m.pos, outermost := m.outermost, loop := j, count := 0, kept := m.keep true, began := none } :: m.frames,
      weight := m.weight + 1 + (m.keep true).marks.size, pc := l.pc + 4, handed := m.pos } := by
  unfold M.exec
  rw [h0, show ops[18]? = some .MAX_UNTIL from rfl]
  show M.until_ _ true = _
  unfold M.until_
  have hL : m.loops.getD j { pc := 0, outer := none } = l := by rw [Array.getD_eq_getD_getElem?, hl]; rfl
  simp only [hi, M.loopAt, hL, hc, h2, h3, hb]
  rw [if_neg (by decide), if_neg (by decide), if_pos (by simp)]
  unfold M.round M.attempt
  simp only [M.loopAt, M.setLoop, hL]
  rw [if_neg (by show ¬ (m.weight + 1 + (m.keep true).marks.size > 16777216); lia)]
  simp only [hb, M.frame, if_true]
  rfl
theorem exec18_again {m : M} {j : Nat} {l : Loop} (h0 : m.word 0 = 18) (hi : m.inner = some j) (hl : m.loops[j]? = some l) (hc : l.count = 0) (h2 : m.code.getD (l.pc + 2) 0 = 0) (h3 : m.code.getD (l.pc + 3) 0 = 1)
    (hw : m.weight + 1 ≤ 16777216) : m.exec = { m with
      seen := m.seen.add 18, inner := l.outer,
      frames := { wait := .maxTail, pc := m.pc + 1, pos := m.pos, outermost := m.outermost, loop := j, count := 1, kept := { lastmark := m.lastmark, lastindex := m.lastindex } } :: m.frames,
      weight := m.weight + 1, pc := m.pc + 1, handed := m.pos } := by
  unfold M.exec
  rw [h0, show ops[18]? = some .MAX_UNTIL from rfl]
  show M.until_ _ true = _
  unfold M.until_
  have hL : m.loops.getD j { pc := 0, outer := none } = l := by rw [Array.getD_eq_getD_getElem?, hl]; rfl
  simp only [hi, M.loopAt, hL, hc, h2, h3]
  rw [if_neg (by decide), if_neg (by decide), if_neg (by simp [maxRepeat])]
  unfold M.afterLoop M.attempt
  simp only [M.loopAt, hL]
  rw [if_neg (by show ¬ (m.weight + 1 + 0 > 16777216); lia)]
  rfl
theorem afterLoop_is {X : M} {j : Nat} {c : Int} (hw : X.weight + 1 ≤ 16777216) : X.afterLoop .maxTail j c (fun _ => false) = { X with
    inner := (X.loopAt j).outer, frames := { wait := .maxTail, pc := X.pc, pos := X.pos, outermost := X.outermost, loop := j, count := c, kept := { lastmark := X.lastmark, lastindex := X.lastindex } } :: X.frames, weight := X.weight + 1, handed := X.pos } := by
  unfold M.afterLoop M.attempt
  rw [if_neg (by show ¬ (X.weight + 1 + 0 > 16777216); lia)]
  rfl
section
variable {g : Nat} {code text : Array Nat} {m : M} {pc i : Nat} {r : List Nat} {L : Marks} {ctx : List Nat}
/-- the tail behind a loop -/
theorem does_tail {N b j : Nat} {X Y : M} {res : Option Marks} {K : Sre.Kept} {p q : Nat} (hY : Y.frames = { wait := .maxTail, pc := p, pos := q, outermost := X.outermost, loop := j, count := 1, kept := K } :: X.frames ∨ Y.frames = { wait := .maxTail, pc := p, pos := q, outermost := X.outermost, loop := j, count := 0, kept := K } :: X.frames)
    (hK : K.marks = #[]) (hi : X.inner = some j) (hd : Does g N b Y res) (hl : ∀ m', Lost b Y m' → Lost b X { m' with inner := some j, frames := X.frames, weight := X.weight }) (hw : Y.weight = X.weight + 1) : DoesB g (N + 1) b X Y res := by
  have key : ∀ f : Sre.Frame, f.wait = .maxTail → f.loop = j → f.kept.marks.size = 0 → Y.frames = f :: X.frames → DoesB g (N + 1) b X Y res := by
    intro f h1 h2 h3 hf
    have := DoesB.pushed (N' := 0) (b' := b) (m₀ := X) (r' := none) hf hd fun m₂ l => by
      refine ⟨0, _, by lia, rfl, ?_⟩
      rw [resume_step l.ans l.out (l.frames.trans hf)]
      unfold M.resume
      simp only [h1, h2]
      have q := hl m₂ l
      exact ⟨rfl, q.out, q.code, q.text, q.lim, q.last, q.whole, q.must, q.loops, hi.symm, rfl, by show m₂.weight - (1 + f.kept.marks.size) = _; rw [l.weight, hw, h3]; lia, q.size, q.low⟩
    rwa [show res.or none = res by cases res <;> rfl] at this
  rcases hY with hY | hY
  · exact key _ rfl rfl (by rw [hK]; rfl) hY
  · exact key _ rfl rfl (by rw [hK]; rfl) hY
/-- the end of a loop's one turn -/
theorem does_until {N b e W : Nat} {k : List Nat → Nat → Marks → Option Marks} (h18 : wordsAt code e [18] = true) (h2 : code.getD (pc + 2) 0 = 0) (h3 : code.getD (pc + 3) 0 = 1) (hW : W + 1 ≤ 16777216)
    (A : At g code text m e r i L (pc :: ctx)) (hm : m.weight ≤ W) (hk : ∀ m, At g code text m (e + 1) r i L ctx → m.weight ≤ W + 1 → Does g N b m (k r i L)) : Does g (N + 2) b m (k r i L) := by
  obtain ⟨h1, h4, -⟩ := wordsAt_cons h18
  have hs := A.step h1
  have hc := A.chain
  cases hi : m.inner with
  | none => rw [hi] at hc; exact hc.elim
  | some j =>
    rw [hi] at hc
    obtain ⟨l, c1, c2, c3, c4, c5⟩ := hc
    have e1 := exec18_again (by rw [A.word, Nat.add_zero, h4]) hi c1 c3 (by rw [A.hcode, c2, h2]) (by rw [A.hcode, c2, h3]) (by lia)
    refine DoesB.to (DoesB.of_step (N := N + 1) ?_)
    rw [hs, e1]
    refine does_tail (j := j) (.inl rfl) rfl hi (hk _ ?_ ?_) (fun m' l => ?_) rfl
    · exact ⟨A.hcode, A.htext, A.hlim, by show m.pc + 1 = _; rw [A.hpc], A.hpos, A.rest, A.le, A.ans, A.out, A.outer, A.whole, A.must, A.marks, c5, A.frames⟩
    · show m.weight + 1 ≤ _; lia
    · exact ⟨l.ans, l.out, l.code, l.text, l.lim, l.last, l.whole, l.must, l.loops, hi.symm, rfl, rfl, l.size, l.low⟩
theorem does_opt {a : Re} {N N₁ b e W : Nat} {k : List Nat → Nat → Marks → Option Marks} (h23 : wordsAt code pc [23, e - pc - 1, 0, 1] = true) (h18 : wordsAt code e [18] = true) (he : pc + 4 ≤ e) (hW : W + 3 + g ≤ 16777216)
    (A : At g code text m pc r i L ctx) (hm : m.weight ≤ W) (hbody : ∀ m, At g code text m (pc + 4) r i L (pc :: ctx) → m.weight ≤ W + 2 + g → Does g N₁ b m (a.mt k r i L))
    (hk : ∀ m, At g code text m (e + 1) r i L ctx → m.weight ≤ W + 3 + g → Does g N b m (k r i L)) : Does g (N₁ + N + 6) b m ((Re.opt a).mt k r i L) := by
  obtain ⟨h1, h4, h5⟩ := wordsAt_cons h23
  obtain ⟨-, h6, h7⟩ := wordsAt_cons h5
  obtain ⟨-, h8, h9⟩ := wordsAt_cons h7
  obtain ⟨-, h10, -⟩ := wordsAt_cons h9
  obtain ⟨q1, q2, -⟩ := wordsAt_cons h18
  have hs := A.step h1
  have e1 := exec23 (m := m) (by rw [A.word, Nat.add_zero, h4]) (by lia)
  have hpc1 : m.pc + 1 + m.word 1 = e := by rw [A.word, h6, A.hpc]; lia
  rw [hpc1] at e1
  refine DoesB.to (DoesB.of_step (N := N₁ + N + 5) ?_)
  rw [hs, e1]
  generalize hS : ({ m with seen := m.seen.add 23, loops := m.loops.push { pc := m.pc, outer := m.inner }, inner := some m.loops.size, frames := { wait := .closeLoop, pc := m.pc, pos := m.pos, outermost := m.outermost, loop := m.loops.size } :: m.frames, weight := m.weight + 1, pc := e, handed := m.pos } : M) = S
  have hS1 : S.loops[m.loops.size]? = some { pc := m.pc, outer := m.inner } := by rw [← hS]; exact Array.getElem?_push_size
  have hkeep : (S.keep true).marks.size ≤ g := by
    have := (keep_ok (b := 0) (w := true) (m := S) (g := g) (L := L) (by rw [← hS]; exact A.marks) (by simp)).size
    exact this
  have eS : S.step = S.exec := by
    unfold M.step
    rw [← hS]
    simp only [A.out, A.ans, Option.isSome_none, Bool.false_eq_true, if_false]
    rw [if_pos (by rw [A.hcode]; exact q1)]
  have eS2 := exec18_first (m := S) (j := m.loops.size) (by rw [← hS]; unfold M.word; simp only [A.hcode, Nat.add_zero]; exact q2) (by rw [← hS]) hS1 rfl rfl (by rw [← hS]; simp only [A.hcode, A.hpc]; rw [show pc + 2 = pc + 1 + 1 by lia]; exact h8) (by rw [← hS]; simp only [A.hcode, A.hpc]; rw [show pc + 3 = pc + 1 + 1 + 1 by lia]; exact h10)
    (by have : S.weight = m.weight + 1 := by rw [← hS]
        lia)
  have hSw : S.weight = m.weight + 1 := by rw [← hS]
  have hSm : MarksAre g S L := by rw [← hS]; exact A.marks
  have hSl : ∀ (f : Loop → Loop) (i : Nat), i < m.loops.size → (S.loops.modify m.loops.size f)[i]? = m.loops[i]? := fun f i hi => by
    rw [Array.getElem?_modify, if_neg (by lia), ← hS]
    show (m.loops.push _)[i]? = _
    rw [Array.getElem?_push_lt hi, Array.getElem?_eq_getElem hi]
  have hSi : S.inner = some m.loops.size := by rw [← hS]
  -- the body, then without it
  have inner : DoesB g (N₁ + (N + 1) + 2) b S S ((a.mt k r i L).or (k r i L)) := by
    refine DoesB.of_step ?_
    rw [eS, eS2]
    refine DoesB.pushed (m₀ := S) (N' := N + 1) (b := b) (b' := b) rfl (hbody _ ?_ ?_) fun m₂ l => ?_
    · refine ⟨by rw [← hS]; exact A.hcode, by rw [← hS]; exact A.htext, by rw [← hS]; exact A.hlim, by show m.pc + 4 = _; rw [A.hpc], by rw [← hS]; exact A.hpos, A.rest, A.le, by rw [← hS]; exact A.ans, by rw [← hS]; exact A.out, by rw [← hS]; exact A.outer, by rw [← hS]; exact A.whole, by rw [← hS]; exact A.must, hSm, ?_, by rw [← hS]; exact A.frames⟩
      show Chain _ S.inner (pc :: ctx)
      rw [hSi]
      exact ⟨{ pc := m.pc, count := 0, began := some S.pos, outer := m.inner }, by show (S.loops.modify _ _)[m.loops.size]? = _; rw [Array.getElem?_modify, if_pos rfl, hS1]; rfl, A.hpc, rfl, fun o ho => chain_lt A.chain o ho, chain_ext A.chain fun i hi => hSl _ i hi⟩
    · show S.weight + 1 + _ ≤ _; lia
    · have hpb := putBack_ok (b := b) (m := m₂) (K := S.keep true) hSm (keep_ok (w := true) hSm (by simp)) l.size (fun j hj hm => l.low j hj hm)
      have hloops : (m₂.loops.modify m.loops.size (fun l => { l with began := none })).modify m.loops.size (fun l => { l with count := 0 - 1 }) = S.loops := by
        rw [l.loops]
        dsimp only
        apply Array.ext_getElem?
        intro i
        simp only [Array.getElem?_modify]
        split
        · rename_i hi; subst hi; rw [hS1]; rfl
        · rfl
      have e3 : m₂.step = { m₂.putBack (S.keep true) with
          answer := none, loops := S.loops, inner := m.inner, outermost := S.outermost,
          frames := { wait := .maxTail, pc := S.pc + 1, pos := S.pos, outermost := S.outermost, loop := m.loops.size, count := 0, kept := { lastmark := (S.keep true).lastmark, lastindex := (S.keep true).lastindex } } :: S.frames,
          weight := S.weight + 1, pc := S.pc + 1, pos := S.pos, handed := S.pos } := by
        rw [resume_step l.ans l.out l.frames]
        unfold M.resume
        simp only [Bool.false_eq_true, if_false]
        have hwt : m₂.weight - (1 + (S.keep true).marks.size) = S.weight := by rw [l.weight]; dsimp only; lia
        have hL : S.loops.getD m.loops.size { pc := 0, outer := none } = { pc := m.pc, outer := m.inner } := by rw [Array.getD_eq_getD_getElem?, hS1]; rfl
        rw [afterLoop_is (by show m₂.weight - _ + 1 ≤ _; lia)]
        simp only [M.setLoop, M.putBack, M.loopAt]
        rw [hloops, hL, hwt]
      rw [e3]
      refine does_tail (j := m.loops.size) (.inr rfl) rfl hSi (hk _ ?_ ?_) (fun m' q => ?_) rfl
      · exact ⟨(l.code.trans (by rw [← hS])).trans A.hcode, (l.text.trans (by rw [← hS])).trans A.htext, (l.lim.trans (by rw [← hS])).trans A.hlim, by show S.pc + 1 = _; rw [← hS], by show S.pos = _; rw [← hS]; exact A.hpos, A.rest, A.le, rfl, l.out, by show S.outermost = _; rw [← hS]; exact A.outer, (l.whole.trans (by rw [← hS])).trans A.whole, (l.must.trans (by rw [← hS])).trans A.must, hpb.1, chain_ext A.chain fun i hi => by
          show S.loops[i]? = _
          rw [← hS]
          show (m.loops.push _)[i]? = _
          rw [Array.getElem?_push_lt hi, Array.getElem?_eq_getElem hi], by show S.frames.all _ = _; rw [← hS]; exact A.frames⟩
      · show S.weight + 1 ≤ _; lia
      · exact ⟨q.ans, q.out, q.code.trans l.code, q.text.trans l.text, q.lim.trans l.lim, q.last.trans l.last, q.whole.trans l.whole, q.must.trans l.must, q.loops, hSi.symm, rfl, rfl, q.size.trans (hpb.1.2.2.1.trans hSm.2.2.1.symm), fun j hj hm => (q.low j hj hm).trans (hpb.2 j hj hm)⟩
  have := DoesB.pushed (N' := 0) (b' := b) (m₀ := m) (m₁ := S) (r' := none) (by rw [← hS]) inner.to fun m₂ l => by
    refine ⟨0, _, by lia, rfl, ?_⟩
    rw [resume_step l.ans l.out (l.frames.trans (by rw [← hS]))]
    unfold M.resume
    simp only
    have hL : m₂.loops.getD m.loops.size { pc := 0, outer := none } = { pc := m.pc, outer := m.inner } := by rw [Array.getD_eq_getD_getElem?, l.loops, hS1]; rfl
    refine ⟨rfl, l.out, l.code.trans (by rw [← hS]), l.text.trans (by rw [← hS]), l.lim.trans (by rw [← hS]), l.last.trans (by rw [← hS]), l.whole.trans (by rw [← hS]), l.must.trans (by rw [← hS]), ?_, ?_, rfl, ?_, l.size.trans (by rw [← hS]), fun j hj hm => (l.low j hj (by rw [← hS]; exact hm)).trans (by rw [← hS])⟩
    · show m₂.loops.pop = _
      rw [l.loops, ← hS]; exact Array.pop_push
    · show (m₂.loops.getD _ _).outer = _
      rw [hL]
    · show m₂.weight - (1 + 0) = _
      rw [l.weight, hSw]; lia
  rw [show ((a.mt k r i L).or (k r i L)).or none = (a.mt k r i L).or (k r i L) by cases (a.mt k r i L).or (k r i L) <;> rfl] at this
  exact this.mono (by lia)
end
end Mine.Rx
end
section
set_option maxRecDepth 100000
namespace Mine.Rx
open PySem PySem.Sre
def Re.tm (T : Nat) : Re → Nat → Nat
  | .rep _ _ hi, N => (min hi T + 1) * (N + 3) + 1
  | .opt a, N => a.tm T (N + 2) + N + 6
  | .seq a b, N => a.tm T (b.tm T N)
  | .alt a b, N => a.tm T (N + 1) + b.tm T N + 4
  | _, N => N + 1
def Re.wt (g : Nat) : Re → Nat
  | .rep .. => 1 + g
  | .opt a => a.wt g + 3 + g
  | .seq a b => a.wt g + b.wt g
  | .alt a b => a.wt g + b.wt g + 1 + g
  | _ => 0
def Re.lo : Re → Nat → Nat
  | .mark n, b => min n b
  | .opt a, b => min (a.lo b) b
  | .seq a c, b => a.lo (c.lo b)
  | .alt a c, b => min (a.lo b) (c.lo b)
  | _, b => b
def Re.up : Re → Nat → Nat
  | .mark n, u => max u (n + 1)
  | .opt a, u => max u (a.up u)
  | .seq a c, u => c.up (a.up u)
  | .alt a c, u => max (a.up u) (c.up u)
  | _, u => u
def Re.ok (g : Nat) : Re → Bool → Nat → Nat → Bool
  | .mark n, _, _, _ => Nat.blt n g
  | .rep _ _ _, inl, u, b => inl || Nat.ble u b
  | .opt a, _, u, b => a.ok g true u b
  | .seq a c, inl, u, b => a.ok g inl u (c.lo b) && c.ok g inl (a.up u) b
  | .alt a c, inl, u, b => inl && a.ok g inl u b && c.ok g inl u b
  | _, _, _, _ => true
theorem Re.lo_le : ∀ (r : Re) (b : Nat), r.lo b ≤ b
  | .mark n, b => Nat.min_le_right _ _
  | .opt a, b => Nat.min_le_right _ _
  | .seq a c, b => Nat.le_trans (Re.lo_le a _) (Re.lo_le c b)
  | .alt a c, b => Nat.le_trans (Nat.min_le_left _ _) (Re.lo_le a b)
  | .at0, b | .at5, b | .chr _, b | .rep .., b | .dead, b => Nat.le_refl _

theorem ite_some {c : Prop} [Decidable c] {j e : Nat} (h : (if c then some j else none) = some e) : c ∧ j = e := by
  by_cases hc : c
  · rw [if_pos hc] at h; exact ⟨hc, Option.some.inj h⟩
  · rw [if_neg hc] at h; cases h
theorem and3 {a b : Bool} {p : Prop} [Decidable p] (h : (a && b && decide p) = true) : a = true ∧ b = true ∧ p := by
  cases a
  · cases h
  · cases b
    · cases h
    · exact ⟨rfl, rfl, of_decide_eq_true h⟩
theorem and2 {a : Bool} {p : Prop} [Decidable p] (h : (a && decide p) = true) : a = true ∧ p := by
  cases a
  · cases h
  · exact ⟨rfl, of_decide_eq_true h⟩
theorem and_t {a b : Bool} (h : (a && b) = true) : a = true ∧ b = true := by
  cases a
  · cases h
  · exact ⟨rfl, h⟩
theorem wt_rep {g : Nat} {c : Cls} {lo hi : Nat} : (Re.rep c lo hi).wt g = 1 + g := rfl
theorem wt_opt {g : Nat} {a : Re} : (Re.opt a).wt g = a.wt g + 3 + g := rfl
theorem wt_seq {g : Nat} {a b : Re} : (Re.seq a b).wt g = a.wt g + b.wt g := rfl
theorem wt_alt {g : Nat} {a b : Re} : (Re.alt a b).wt g = a.wt g + b.wt g + 1 + g := rfl
theorem up_mark {n u : Nat} : (Re.mark n).up u = max u (n + 1) := rfl
theorem up_opt {a : Re} {u : Nat} : (Re.opt a).up u = max u (a.up u) := rfl
theorem up_alt {a c : Re} {u : Nat} : (Re.alt a c).up u = max (a.up u) (c.up u) := rfl
theorem tm_alt {a b : Re} {T N : Nat} : (Re.alt a b).tm T N = a.tm T (N + 1) + b.tm T N + 4 := rfl
theorem chk_opt {code : Array Nat} {a : Re} {i z : Nat} (h : (Re.opt a).chk code i = some z) : ∃ e, a.chk code (i + 4) = some e ∧ (wordsAt code i [23, e - i - 1, 0, 1] = true ∧ wordsAt code e [18] = true ∧ i + 4 ≤ e) ∧ e + 1 = z := by
  have h2 : (match a.chk code (i + 4) with
    | some e => if wordsAt code i [23, e - i - 1, 0, 1] && wordsAt code e [18] && decide (i + 4 ≤ e) then some (e + 1) else none
    | none => none) = some z := h
  cases h1 : a.chk code (i + 4) with
  | none => rw [h1] at h2; cases h2
  | some e =>
    rw [h1] at h2
    obtain ⟨h3, h4⟩ := ite_some h2
    exact ⟨e, rfl, and3 h3, h4⟩
theorem chk_seq {code : Array Nat} {a b : Re} {i z : Nat} (h : (Re.seq a b).chk code i = some z) : ∃ e, a.chk code i = some e ∧ b.chk code e = some z := by
  have h2 : (match a.chk code i with
    | some e => b.chk code e
    | none => none) = some z := h
  cases h1 : a.chk code i with
  | none => rw [h1] at h2; cases h2
  | some e => rw [h1] at h2; exact ⟨e, rfl, h2⟩
/-- a chain's end, of what stands in it -/
theorem tail_inv {code : Array Nat} {c : Re} {e z : Nat} (h : (match Re.chk.chain code c (e + 2) with
         | some z => if wordsAt code (e + 1) [z - (e + 1)] && decide (e + 1 ≤ z) then some z else none
         | none => none) = some z) : Re.chk.chain code c (e + 2) = some z ∧ wordsAt code (e + 1) [z - (e + 1)] = true ∧ e + 1 ≤ z := by
  cases h1 : Re.chk.chain code c (e + 2) with
  | none => rw [h1] at h; cases h
  | some y =>
    rw [h1] at h
    obtain ⟨h3, rfl⟩ := ite_some h
    exact ⟨rfl, and2 h3⟩
theorem ite_none {c : Prop} [Decidable c] {o : Option Nat} {e : Nat} (h : (if c then o else none) = some e) : c ∧ o = some e := by
  by_cases hc : c
  · rw [if_pos hc] at h; exact ⟨hc, h⟩
  · rw [if_neg hc] at h; cases h
theorem chain_alt {code : Array Nat} {a c : Re} {p z : Nat} (h : Re.chk.chain code (.alt a c) p = some z) : ∃ e, a.chk code (p + 1) = some e ∧ (wordsAt code p [e + 2 - p] = true ∧ wordsAt code e [15] = true ∧ p + 1 ≤ e) ∧
    Re.chk.chain code c (e + 2) = some z ∧ wordsAt code (e + 1) [z - (e + 1)] = true ∧ e + 1 ≤ z := by
  have h2 : (match a.chk code (p + 1) with
    | some e => if wordsAt code p [e + 2 - p] && wordsAt code e [15] && decide (p + 1 ≤ e) then
        (match Re.chk.chain code c (e + 2) with
         | some z => if wordsAt code (e + 1) [z - (e + 1)] && decide (e + 1 ≤ z) then some z else none
         | none => none)
      else none
    | none => none) = some z := h
  cases h1 : a.chk code (p + 1) with
  | none => rw [h1] at h2; cases h2
  | some e =>
    rw [h1] at h2
    obtain ⟨h3, h4⟩ := ite_none h2
    exact ⟨e, rfl, and3 h3, tail_inv h4⟩
theorem chk_alt {code : Array Nat} {a c : Re} {i z : Nat} (h : (Re.alt a c).chk code i = some z) : ∃ e, a.chk code (i + 2) = some e ∧ (wordsAt code i [7, e + 1 - i] = true ∧ wordsAt code e [15] = true ∧ i + 2 ≤ e) ∧
    (match Re.chk.chain code c (e + 2) with
         | some z => if wordsAt code (e + 1) [z - (e + 1)] && decide (e + 1 ≤ z) then some z else none
         | none => none) = some z := by
  have h2 : (match a.chk code (i + 2) with
    | some e => if wordsAt code i [7, e + 1 - i] && wordsAt code e [15] && decide (i + 2 ≤ e) then
        (match Re.chk.chain code c (e + 2) with
         | some z => if wordsAt code (e + 1) [z - (e + 1)] && decide (e + 1 ≤ z) then some z else none
         | none => none)
      else none
    | none => none) = some z := h
  cases h1 : a.chk code (i + 2) with
  | none => rw [h1] at h2; cases h2
  | some e =>
    rw [h1] at h2
    obtain ⟨h3, h4⟩ := ite_none h2
    exact ⟨e, rfl, and3 h3, h4⟩
theorem words_two {code : Array Nat} {i a b : Nat} (h : wordsAt code i [a, b] = true) : wordsAt code i [a] = true ∧ wordsAt code (i + 1) [b] = true := by
  obtain ⟨h1, h2⟩ := and_t h
  exact ⟨by show (_ && true) = true; rw [Bool.and_true]; exact h1, h2⟩
theorem exec7 {m : M} (h0 : m.word 0 = 7) : m.exec = M.alternative { m with seen := m.seen.add 7 } (m.pc + 1) (m.keep m.inner.isSome) := by
  unfold M.exec
  rw [h0, show ops[7]? = some .BRANCH from rfl]
  rfl
theorem exec15 {m : M} (h0 : m.word 0 = 15) : m.exec = { m with seen := m.seen.add 15, pc := m.pc + 1 + m.word 1 } := by
  unfold M.exec
  rw [h0, show ops[15]? = some .JUMP from rfl]
  rfl
theorem alternative_is {X : M} {p w : Nat} {K : Sre.Kept} (hw : X.code.getD p 0 = w) (h0 : w ≠ 0) (hs : X.weight + 1 + K.marks.size ≤ 16777216) : X.alternative p K = { X with
    frames := { wait := .nextBranch, pc := p, pos := X.pos, outermost := X.outermost, kept := K } :: X.frames, weight := X.weight + 1 + K.marks.size, pc := p + 1, handed := X.pos } := by
  unfold M.alternative
  rw [hw, if_neg (by simpa using h0)]
  unfold M.attempt
  rw [if_neg (by show ¬ (X.weight + 1 + K.marks.size > 16777216); lia)]
  rfl
section
variable {g : Nat} {code text : Array Nat}
def Sim (g : Nat) (code text : Array Nat) (q : Re) : Prop := ∀ (pc e : Nat), q.chk code pc = some e → ∀ (ctx : List Nat) (b u W N : Nat) (k : List Nat → Nat → Marks → Option Marks), q.ok g (!ctx.isEmpty) u b = true → W + q.wt g ≤ 16777216 →
  (∀ m r i L, At g code text m e r i L ctx → L.length ≤ q.up u → m.weight ≤ W + q.wt g → Does g N b m (k r i L)) → ∀ m r i L, At g code text m pc r i L ctx → L.length ≤ u → m.weight ≤ W → Does g (q.tm text.size N) (q.lo b) m (q.mt k r i L)
def SimChain (g : Nat) (code text : Array Nat) (q : Re) : Prop := ∀ (p z : Nat), Re.chk.chain code q p = some z → ∀ (ctx : List Nat) (b u W N : Nat) (k : List Nat → Nat → Marks → Option Marks), q.ok g (!ctx.isEmpty) u b = true → ctx ≠ [] → W + q.wt g ≤ 16777216 →
  (∀ m r i L, At g code text m z r i L ctx → L.length ≤ q.up u → m.weight ≤ W + q.wt g → Does g N b m (k r i L)) → ∀ (X : M) r i L (K : Sre.Kept), At g code text X X.pc r i L ctx → K.whole = true → KeptOk (q.lo b) g K L → L.length ≤ u → X.weight ≤ W →
    DoesB g (q.tm text.size N - 1) (q.lo b) X (X.alternative p K) (q.mt k r i L)
theorem Array_size_le (text : Array Nat) (i : Nat) (r : List Nat) (h : text.toList.drop i = r) : r.length ≤ text.size := by
  rw [← h, List.length_drop, Array.length_toList]; lia
/-- a jump, then what follows -/
theorem does_jump {N b e z : Nat} {ctx : List Nat} {m : M} {r : List Nat} {i : Nat} {L : Marks} {res : Option Marks} (h1 : wordsAt code e [15] = true) (h2 : wordsAt code (e + 1) [z - (e + 1)] = true) (hz : e + 1 ≤ z) (A : At g code text m e r i L ctx)
    (hk : ∀ m', At g code text m' z r i L ctx → m'.weight = m.weight → Does g N b m' res) : Does g (N + 1) b m res := by
  obtain ⟨p1, p2, -⟩ := wordsAt_cons h1
  obtain ⟨-, p4, -⟩ := wordsAt_cons h2
  refine Does.step ((A.step p1).trans (exec15 (by rw [A.word, Nat.add_zero, p2]))) rfl (fun m' l => ⟨l.ans, l.out, l.code, l.text, l.lim, l.last, l.whole, l.must, l.loops, l.inner, l.frames, l.weight, l.size, l.low⟩) (hk _ ?_ rfl)
  exact ⟨A.hcode, A.htext, A.hlim, by show m.pc + 1 + m.word 1 = _; rw [A.word, A.hpc, p4]; lia, A.hpos, A.rest, A.le, A.ans, A.out, A.outer, A.whole, A.must, A.marks, A.chain, A.frames⟩
theorem DoesB.low {g N b b' : Nat} {m₀ m : M} {r : Option Marks} (h : DoesB g N b m₀ m r) (hb : b' ≤ b) : DoesB g N b' m₀ m r := by
  cases r with
  | some L => exact h
  | none => obtain ⟨n, m', h1, h2, h3⟩ := h; exact ⟨n, m', h1, h2, h3.low_mono hb⟩
theorem KeptOk.low {b b' g : Nat} {K : Sre.Kept} {L : Marks} (h : KeptOk b g K L) (hw : K.whole = true) : KeptOk b' g K L := ⟨h.last, h.size, h.whole, fun e => by rw [hw] at e; cases e⟩

theorem sim_chain {a c : Re} (ha : Sim g code text a) (hc : SimChain g code text c) : SimChain g code text (.alt a c) := by
  intro p z hz ctx b u W N k hok hctx hW hk X r i L K A hwh hK hu hw
  obtain ⟨e, he, ⟨h1, h3, h4⟩, hz', h2, h5⟩ := chain_alt hz
  obtain ⟨-, h6, -⟩ := wordsAt_cons h1
  obtain ⟨hok, ok2⟩ := and_t hok
  obtain ⟨-, ok1⟩ := and_t hok
  simp only [wt_alt] at hW hk
  simp only [up_alt] at hk
  have hks := hK.size
  have e1 := alternative_is (X := X) (p := p) (K := K) (by rw [A.hcode, h6]) (by lia) (by lia)
  show DoesB g (a.tm text.size (N + 1) + c.tm text.size N + 4 - 1) (min (a.lo b) (c.lo b)) X _ ((a.mt k r i L).or (c.mt k r i L))
  rw [e1]
  refine (DoesB.pushed (N := a.tm text.size (N + 1)) (N' := c.tm text.size N - 1) (b := min (a.lo b) (c.lo b)) rfl (Does.low (ha (p + 1) e he ctx b u (W + 1 + g) (N + 1) k ok1 (by lia) ?_ _ r i L ?_ hu ?_) (Nat.min_le_left _ _)) fun m₂ l => ?_).mono (by lia)
  · intro m r i L A1 hu1 hw1
    exact does_jump h3 h2 h5 A1 fun m' A2 w2 => hk m' r i L A2 (by lia) (by lia)
  · exact ⟨A.hcode, A.htext, A.hlim, rfl, A.hpos, A.rest, A.le, A.ans, A.out, A.outer, A.whole, A.must, A.marks, A.chain, A.frames⟩
  · show X.weight + 1 + K.marks.size ≤ _; lia
  · rw [resume_step l.ans l.out l.frames]
    unfold M.resume
    simp only [Bool.false_eq_true, if_false]
    have hpb := putBack_ok (b := min (a.lo b) (c.lo b)) (m := m₂) (K := K) A.marks (hK.low hwh) l.size (fun j hj hm => l.low j hj hm)
    have hwt : m₂.weight - (1 + K.marks.size) = X.weight := by rw [l.weight]; show X.weight + 1 + K.marks.size - _ = _; lia
    have hp : p + code.getD p 0 = e + 2 := by rw [h6]; lia
    rw [show m₂.code.getD p 0 = code.getD p 0 by rw [l.code]; show X.code.getD p 0 = _; rw [A.hcode], hp]
    have := hc (e + 2) z hz' ctx b u W N k ok2 hctx (by lia) (fun m r i L A1 hu1 hw1 => hk m r i L A1 (by lia) (by lia))
      (({ m₂ with answer := none, frames := X.frames, weight := m₂.weight - (1 + K.marks.size), pc := p, pos := X.pos, outermost := X.outermost } : M).putBack K) r i L K ?_ hwh (hK.low hwh) hu ?_
    · refine (this.low (Nat.min_le_right _ _)).base rfl fun m' q => ?_
      exact ⟨q.ans, q.out, q.code.trans l.code, q.text.trans l.text, q.lim.trans l.lim, q.last.trans l.last, q.whole.trans l.whole, q.must.trans l.must, q.loops.trans l.loops, q.inner.trans l.inner, q.frames, q.weight.trans hwt, q.size.trans (hpb.1.2.2.1.trans A.marks.2.2.1.symm),
        fun j hj hm => (q.low j hj (by show (j : Int) ≤ K.lastmark; rw [hK.last]; have := A.marks.1; lia)).trans (hpb.2 j hj hm)⟩
    · exact ⟨l.code.trans A.hcode, l.text.trans A.htext, l.lim.trans A.hlim, rfl, A.hpos, A.rest, A.le, rfl, l.out, A.outer, l.whole.trans A.whole, l.must.trans A.must, hpb.1, by show Chain m₂.loops m₂.inner ctx; rw [l.loops, l.inner]; exact A.chain, A.frames⟩
    · show m₂.weight - _ ≤ _; lia
theorem sim_dead : SimChain g code text .dead := by
  intro p z hz ctx b u W N k hok hctx hW hk X r i L K A hwh hK hu hw
  · obtain ⟨h1, -⟩ := ite_some (c := wordsAt code p [0] = true) (j := p + 1) hz
    obtain ⟨-, h2, -⟩ := wordsAt_cons h1
    have e : X.alternative p K = X.say false := by unfold M.alternative; rw [A.hcode, h2]; rfl
    rw [e]
    exact ⟨0, _, by lia, rfl, ⟨rfl, A.out, rfl, rfl, rfl, rfl, rfl, rfl, rfl, rfl, rfl, rfl, rfl, fun _ _ _ => rfl⟩⟩
theorem sim : ∀ q : Re, Sim g code text q ∧ SimChain g code text q := by
  intro q
  induction q with
  | at0 =>
    refine ⟨?_, fun p z hz => nomatch (hz : (none : Option Nat) = some z)⟩
    intro pc e he ctx b u W N k hok hW hk m r i L A hu hw
    · obtain ⟨h, rfl⟩ := ite_some (c := wordsAt code pc [6, 0] = true) (j := pc + 2) he
      exact does_at0 h A fun m' A' w' => hk m' r i L A' hu (by lia)
  | at5 =>
    refine ⟨?_, fun p z hz => nomatch (hz : (none : Option Nat) = some z)⟩
    intro pc e he ctx b u W N k hok hW hk m r i L A hu hw
    · obtain ⟨h, rfl⟩ := ite_some (c := wordsAt code pc [6, 5] = true) (j := pc + 2) he
      exact does_at5 h A fun m' A' w' => hk m' r i L A' hu (by lia)
  | mark n =>
    refine ⟨?_, fun p z hz => nomatch (hz : (none : Option Nat) = some z)⟩
    intro pc e he ctx b u W N k hok hW hk m r i L A hu hw
    · obtain ⟨h, rfl⟩ := ite_some (c := wordsAt code pc [17, n] = true) (j := pc + 2) he
      refine does_mark h (Nat.blt_eq.mp hok) (Nat.min_le_left _ _) A fun m' A' w' => (hk m' r i _ A' ?_ (by lia)).low (Nat.min_le_right _ _)
      simp only [setMark, List.length_set, List.length_append, List.length_replicate, up_mark]; lia
  | chr c =>
    refine ⟨?_, fun p z hz => nomatch (hz : (none : Option Nat) = some z)⟩
    intro pc e he ctx b u W N k hok hW hk m r i L A hu hw
    · obtain ⟨h, rfl⟩ := ite_some (c := wordsAt code pc c.words = true) (j := pc + c.words.length) he
      exact does_chr h A fun m' r' A' w' => hk m' r' _ L A' hu (by lia)
  | rep c lo hi =>
    refine ⟨?_, fun p z hz => nomatch (hz : (none : Option Nat) = some z)⟩
    intro pc e he ctx b u W N k hok hW hk m r i L A hu hw
    · obtain ⟨h, rfl⟩ := ite_some (c := (wordsAt code pc (24 :: (c.words.length + 4) :: lo :: hi :: c.words) && decide (lo ≤ hi)) = true) (j := pc + c.words.length + 5) he
      replace h := and2 h
      replace hok : ((!ctx.isEmpty) || Nat.ble u b) = true := hok
      rw [Bool.or_eq_true, Nat.ble_eq] at hok
      simp only [wt_rep] at hW hk
      refine (does_rep h.1 h.2 (W := W) (by lia) (fun hc => ?_) A hw fun m r i A' w' => hk m r i L A' hu (by lia)).mono ?_
      · subst hc
        rcases hok with hok | hok
        · cases hok
        · exact Nat.le_trans hu hok
      · have := Array_size_le text i r A.rest
        exact Nat.add_le_add_right (Nat.mul_le_mul_right _ (by lia)) 1
  | opt a ih =>
    refine ⟨?_, fun p z hz => nomatch (hz : (none : Option Nat) = some z)⟩
    intro pc e he ctx b u W N k hok hW hk m r i L A hu hw
    · · obtain ⟨e', he', ⟨h1, h2, h3⟩, rfl⟩ := chk_opt he
        simp only [wt_opt] at hW hk
        simp only [up_opt] at hk
        obtain ⟨-, -, h5⟩ := wordsAt_cons h1
        obtain ⟨-, -, h7⟩ := wordsAt_cons h5
        obtain ⟨-, h8, h9⟩ := wordsAt_cons h7
        obtain ⟨-, h10, -⟩ := wordsAt_cons h9
        refine does_opt (W := W) h1 h2 h3 (by lia) A hw (fun m A' w' => (ih.1 (pc + 4) e' he' (pc :: ctx) b u (W + 2 + g) (N + 2) k hok (by lia) (fun m r i L A1 hu1 hw1 => ?_) m r i L A' hu w').low (Nat.min_le_left _ _))
          fun m A' w' => (hk m r i L A' (by lia) (by lia)).low (Nat.min_le_right _ _)
        exact does_until (W := W + 2 + g + a.wt g) (pc := pc) h2 (by rw [show pc + 2 = pc + 1 + 1 by lia]; exact h8) (by rw [show pc + 3 = pc + 1 + 1 + 1 by lia]; exact h10) (by lia) A1 hw1 fun m A2 hw2 => hk m r i L A2 (by lia) (by lia)
  | seq a c iha ihc =>
    refine ⟨?_, fun p z hz => nomatch (hz : (none : Option Nat) = some z)⟩
    intro pc e he ctx b u W N k hok hW hk m r i L A hu hw
    · obtain ⟨e', he', he⟩ := chk_seq he
      replace hok := and_t hok
      simp only [wt_seq] at hW hk
      exact iha.1 pc e' he' ctx (c.lo b) u W (c.tm text.size N) (c.mt k) hok.1 (by lia) (fun m r i L A1 hu1 hw1 =>
        ihc.1 e' e he ctx b (a.up u) (W + a.wt g) N k hok.2 (by lia) (fun m r i L A2 hu2 hw2 => hk m r i L A2 hu2 (by lia)) m r i L A1 hu1 hw1) m r i L A hu hw
  | alt a c iha ihc =>
    have hch := sim_chain iha.1 ihc.2
    refine ⟨?_, hch⟩
    intro pc e he ctx b u W N k hok hW hk m r i L A hu hw
    have hz : Re.chk.chain code (.alt a c) (pc + 1) = some e ∧ wordsAt code pc [7] = true := by
      obtain ⟨e', he', ⟨h1, h3, h4⟩, h5⟩ := chk_alt he
      obtain ⟨q1, q2⟩ := words_two h1
      refine ⟨?_, q1⟩
      show (match a.chk code (pc + 1 + 1) with
        | some e => if wordsAt code (pc + 1) [e + 2 - (pc + 1)] && wordsAt code e [15] && decide (pc + 1 + 1 ≤ e) then
            (match Re.chk.chain code c (e + 2) with
             | some z => if wordsAt code (e + 1) [z - (e + 1)] && decide (e + 1 ≤ z) then some z else none
             | none => none)
          else none
        | none => none) = some e
      rw [show a.chk code (pc + 1 + 1) = some e' from he']
      have q3 : wordsAt code (pc + 1) [e' + 2 - (pc + 1)] = true := by rw [show e' + 2 - (pc + 1) = e' + 1 - pc from Nat.add_sub_add_right (e' + 1) 1 pc]; exact q2
      show (if _ then _ else none) = _
      rw [if_pos (by rw [q3, h3, decide_eq_true h4]; rfl)]
      exact h5
    obtain ⟨q1, q2, -⟩ := wordsAt_cons hz.2
    have hctx : ctx ≠ [] := by
      rintro rfl
      exact absurd (and_t (and_t hok).1).1 Bool.false_ne_true
    have hin : m.inner.isSome = true := by
      have := A.chain
      cases hi : m.inner with
      | none => rw [hi] at this; cases ctx <;> first | exact absurd rfl hctx | exact this.elim
      | some _ => rfl
    have hx := exec7 (m := m) (by rw [A.word, Nat.add_zero, q2])
    have := hch (pc + 1) e hz.1 ctx b u W N k hok hctx hW hk { m with seen := m.seen.add 7 } r i L (m.keep m.inner.isSome) ⟨A.hcode, A.htext, A.hlim, rfl, A.hpos, A.rest, A.le, A.ans, A.out, A.outer, A.whole, A.must, A.marks, A.chain, A.frames⟩ hin (keep_ok A.marks fun e => by rw [hin] at e; cases e) hu hw
    refine DoesB.to ((DoesB.of_step (N := (Re.alt a c).tm text.size N - 1) ?_).mono (by rw [tm_alt]; lia))
    rw [A.step q1, hx, show m.pc + 1 = pc + 1 by rw [A.hpc]]
    exact DoesB.base (m₁ := m) this rfl fun m' q => ⟨q.ans, q.out, q.code, q.text, q.lim, q.last, q.whole, q.must, q.loops, q.inner, q.frames, q.weight, q.size, q.low⟩
  | dead =>
    refine ⟨?_, sim_dead⟩
    intro pc e he
    exact nomatch (he : (none : Option Nat) = some e)
end
end Mine.Rx
end
section
set_option maxRecDepth 100000
namespace Mine.Rx
open PySem PySem.Sre
theorem step_done {m : M} (h : m.outcome.isSome = true) : m.step = m := by
  unfold M.step; rw [if_pos h]
theorem steps_done {m : M} (h : m.outcome.isSome = true) : ∀ n, steps n m = m
  | 0 => rfl
  | n + 1 => by show steps n m.step = m; rw [step_done h]; exact steps_done h n
theorem runFor_is : ∀ (n : Nat) (m : M), M.runFor n m = steps n m
  | 0, _ => rfl
  | n + 1, m => by
    unfold M.runFor
    by_cases h : m.outcome.isSome = true
    · rw [if_pos h, steps_done h]
    · rw [if_neg h]; exact runFor_is n m.step
theorem wp_reDrive {MM : Model} {A : Around} {E : Value → Shared → Prop} {s : Shared} {Q : M → Shared → Prop} : ∀ (turns n : Nat) (m : M), n ≤ 4 * turns → 0 < turns → (steps n m).outcome.isSome = true → Q (steps n m) s → wpAny MM A (Builtin.Re.reDrive turns m) Q E s
  | 0, _, _, _, h0, _, _ => absurd h0 (Nat.lt_irrefl _)
  | turns + 1, n, m, hn, _, ho, hq => by
    unfold Builtin.Re.reDrive
    rw [show Builtin.Re.reTurnSteps = 4 from rfl, runFor_is]
    by_cases h4 : (steps 4 m).outcome.isSome = true
    · rw [if_pos h4]
      have e : steps 4 m = steps n m := by
        rcases Nat.le_total 4 n with h | h
        · rw [show n = 4 + (n - 4) by lia, steps_add, steps_done h4]
        · rw [show 4 = n + (4 - n) by lia, steps_add, steps_done ho]
      rw [e]
      exact wpAny_pure hq
    · rw [if_neg h4]
      have hgt : 4 < n := by
        rcases Nat.lt_or_ge 4 n with h | h
        · exact h
        · exact absurd (by rw [show 4 = n + (4 - n) by lia, steps_add, steps_done ho]; exact ho) h4
      have e : steps n m = steps (n - 4) (steps 4 m) := by rw [← steps_add]; congr 1; lia
      refine wpAny_bind (wpAny_rule ?_)
      exact wp_reDrive turns (n - 4) (steps 4 m) (by lia) (by lia) (by rw [← e]; exact ho) (by rw [← e]; exact hq)
theorem wp_units {MM : Model} {A : Around} {E : Value → Shared → Prop} {s : Shared} {f : Nat → PUnit → Sem (ForInStep PUnit)} (hf : ∀ i u (P : ForInStep PUnit → Shared → Prop), P (.yield ⟨⟩) s → wpAny MM A (f i u) P E s) (l : List Nat) {Q : PUnit → Shared → Prop} (h : Q ⟨⟩ s) :
    wpAny MM A (forIn l PUnit.unit f) Q E s := by
  induction l with
  | nil => exact wpAny_pure h
  | cons i l ih =>
    rw [List.forIn_cons]
    exact wpAny_bind (hf _ _ _ ih)
theorem wp_run {MM : Model} {A : Around} {E : Value → Shared → Prop} {s : Shared} {Q : Option M → Shared → Prop} {n : Nat} {m : M} (hn : n ≤ 4 * 2 ^ 64) (ho : (steps n m).outcome = some .matched ∧ Q (some (steps n m)) s ∨ (steps n m).outcome = some .failed ∧ Q none s) :
    wpAny MM A (Builtin.Re.reRunToEnd m) Q E s := by
  unfold Builtin.Re.reRunToEnd
  refine wpAny_bind (wp_reDrive (2 ^ 64) n m hn (by decide) (by rcases ho with h | h <;> rw [h.1] <;> rfl) ?_)
  refine wpAny_bind (wp_units (fun i u P hP => ?_) _ ?_)
  · skip
    split
    · exact wpAny_bind (wpAny_rule (wpAny_pure hP))
    · exact wpAny_pure hP
  rcases ho with ⟨h, hq⟩ | ⟨h, hq⟩ <;> rw [h]
  · exact wpAny_pure hq
  · exact wpAny_pure hq
end Mine.Rx
end
section
set_option maxRecDepth 100000
namespace Mine.Rx
open PySem PySem.Sre
theorem unwind {g : Nat} {L : Marks} (k : Nat) : ∀ (m : M), m.frames.length = k → m.answer = some true → m.outcome = none → MarksAre g m L → m.frames.all (fun f => plainWait f.wait) = true → (steps (k + 1) m).outcome = some .matched ∧ MarksAre g (steps (k + 1) m) L := by
  induction k with
  | zero =>
    intro m hk ha ho hm hf
    have : m.step = { m with outcome := some .matched } := by
      unfold M.step
      rw [ho, ha, List.eq_nil_of_length_eq_zero hk]
      rfl
    show (m.step).outcome = _ ∧ MarksAre g m.step L
    rw [this]
    exact ⟨rfl, hm⟩
  | succ k ih =>
    intro m hk ha ho hm hf
    cases hfr : m.frames with
    | nil => rw [hfr] at hk; cases hk
    | cons f rest =>
      rw [hfr] at hk hf
      rw [List.all_cons, Bool.and_eq_true] at hf
      have hs := resume_step ha ho hfr
      have key : m.step.answer = some true ∧ m.step.outcome = none ∧ m.step.marks = m.marks ∧ m.step.lastmark = m.lastmark ∧ m.step.frames = rest := by
        rw [hs]
        unfold M.resume
        cases hw : f.wait <;> rw [hw] at hf <;> first | (exact ⟨rfl, ho, rfl, rfl, rfl⟩) | (exact absurd hf.1 Bool.false_ne_true)
      obtain ⟨k1, k2, k3, k4, k5⟩ := key
      show (steps (k + 1) m.step).outcome = _ ∧ MarksAre g (steps (k + 1) m.step) L
      refine ih m.step (by rw [k5]; exact Nat.succ.inj hk) k1 k2 ?_ (by rw [k5]; exact hf.2)
      obtain ⟨q1, q2, q3, q4⟩ := hm
      exact ⟨by rw [k4]; exact q1, q2, by rw [k3]; exact q3, by rw [k3]; exact q4⟩
/-- the last word -/
theorem does_end {g b : Nat} {code text : Array Nat} {m : M} {pc i : Nat} {r : List Nat} {L : Marks} (h : wordsAt code pc [1] = true) (A : At g code text m pc r i L []) : Does g 1 b m (some L) := by
  obtain ⟨h1, h2, -⟩ := wordsAt_cons h
  have e : m.step = ({ m with seen := m.seen.add 1, handed := m.pos } : M).say true := by
    rw [A.step h1, exec1 (by rw [A.word, Nat.add_zero, h2]) A.whole A.must]
  exact ⟨1, _, by lia, rfl, by show m.step.answer = _; rw [e]; rfl, by show m.step.outcome = _; rw [e]; exact A.out, by show MarksAre g m.step L; rw [e]; exact A.marks, by show m.step.frames.all _ = _; rw [e]; exact A.frames, by show m.step.frames.length ≤ _; rw [e]; exact Nat.le_add_right _ _⟩
/-- a try at a later place fails at the first word -/
theorem later {code text : Array Nat} (h0 : wordsAt code 5 [6, 0] = true) (hset : ∀ m : M, m.code = code → m.hasFirstSet = false) : ∀ (k s : Nat) (m : M), m.code = code → m.lim = text.size → m.answer = none → m.outcome = none → m.frames = [] → m.weight = 0 → m.pc = 5 → 0 < s → m.lastStart + 1 - s = k →
    (steps (2 * k + 3) (m.attemptFrom s false)).outcome = some .failed := by
  obtain ⟨p1, p2, p3⟩ := wordsAt_cons h0
  obtain ⟨-, p4, -⟩ := wordsAt_cons p3
  intro k
  -- two steps: the first word fails, the frame is asked
  have two : ∀ (s : Nat) (m : M), m.code = code → m.answer = none → m.outcome = none → m.frames = [] → m.weight = 0 → m.pc = 5 → 0 < s → ∃ m₂ : M, steps 2 (m.attemptFrom s false) = (if s < m₂.lastStart then ({ m₂ with mustAdvance := false } : M).attemptFrom (s + 1) false else m₂.say false) ∧
      m₂.code = code ∧ m₂.lim = m.lim ∧ m₂.lastStart = m.lastStart ∧ m₂.answer = none ∧ m₂.outcome = none ∧ m₂.frames = [] ∧ m₂.weight = 0 ∧ m₂.pc = 5 := by
    intro s m hc ha ho hf hw hp hs
    have e0 : m.attemptFrom s false = { m with start := s, pos := s, lastmark := -1, lastindex := -1, frames := [{ wait := .nextStart, pc := 5, pos := s, outermost := false }], weight := 1, pc := 5, handed := s, outermost := false } := by
      unfold M.attemptFrom
      rw [hset m hc]
      simp only [Bool.not_false, if_true]
      unfold M.attemptAt M.attempt
      rw [if_neg (by show ¬ (m.weight + 1 + 0 > 16777216); lia)]
      simp only [hf, hw, hp]
      rfl
    rw [e0]
    refine ⟨{ m with start := s, pos := s, lastmark := -1, lastindex := -1, frames := [], weight := 0, pc := 5, handed := s, outermost := false, answer := none, seen := (m.seen.add 6).add 43 }, ?_, hc, rfl, rfl, rfl, ho, rfl, rfl, rfl⟩
    have e1 : M.step { m with start := s, pos := s, lastmark := -1, lastindex := -1, frames := [{ wait := .nextStart, pc := 5, pos := s, outermost := false }], weight := 1, pc := 5, handed := s, outermost := false } =
        { m with start := s, pos := s, lastmark := -1, lastindex := -1, frames := [{ wait := .nextStart, pc := 5, pos := s, outermost := false }], weight := 1, pc := 5, handed := s, outermost := false, seen := (m.seen.add 6).add 43, answer := some false } := by
      unfold M.step
      simp only [ho, ha, Option.isSome_none, Bool.false_eq_true, if_false]
      rw [if_pos (by rw [hc]; exact p1)]
      rw [exec6 (k := 0) (b := false) (by show m.code.getD 5 0 = 6; rw [hc]; exact p2) (by show m.code.getD 6 0 = 0; rw [hc]; exact p4) (by show Except.ok (s == 0) = _; rw [beq_eq_false_iff_ne.mpr (Nat.ne_of_gt hs)])]
      rfl
    show M.step (M.step _) = _
    rw [e1]
    refine Eq.trans (resume_step (f := { wait := .nextStart, pc := 5, pos := s, outermost := false }) (rest := []) (yes := false) ?_ ?_ ?_) ?_
    · rfl
    · exact ho
    · rfl
    unfold M.resume
    simp only [Bool.false_eq_true, if_false]
    rfl
  induction k with
  | zero =>
    intro s m hc hl ha ho hf hw hp hs hk
    obtain ⟨m₂, e, c1, c2, c3, c4, c5, c6, c7, c8⟩ := two s m hc ha ho hf hw hp hs
    show (steps 3 _).outcome = _
    rw [show (3 : Nat) = 2 + 1 by rfl, steps_add, e, if_neg (by lia)]
    show (M.step (m₂.say false)).outcome = _
    unfold M.step M.say
    simp only [c5, c6, Option.isSome_none, Bool.false_eq_true, if_false]
  | succ k ih =>
    intro s m hc hl ha ho hf hw hp hs hk
    obtain ⟨m₂, e, c1, c2, c3, c4, c5, c6, c7, c8⟩ := two s m hc ha ho hf hw hp hs
    rw [show 2 * (k + 1) + 3 = 2 + (2 * k + 3) by lia, steps_add, e]
    by_cases hlt : s < m₂.lastStart
    · rw [if_pos hlt]
      exact ih (s + 1) _ c1 (c2.trans hl) c4 c5 c6 c7 c8 (by lia) (by show m₂.lastStart + 1 - (s + 1) = k; lia)
    · rw [if_neg hlt]
      have e2 : (M.step (m₂.say false)).outcome = some .failed := by
        unfold M.step M.say
        simp only [c5, c6, Option.isSome_none, Bool.false_eq_true, if_false]
      rw [show 2 * k + 3 = 1 + (2 * k + 2) by lia, steps_add]
      show (steps _ (M.step (m₂.say false))).outcome = _
      rw [steps_done (by rw [e2]; rfl)]
      exact e2
def Ends (g : Nat) (m : M) : Option Marks → Prop
  | some L => ∃ n, n ≤ 4 * 2 ^ 64 ∧ (steps n m).outcome = some .matched ∧ MarksAre g (steps n m) L
  | none => ∃ n, n ≤ 4 * 2 ^ 64 ∧ (steps n m).outcome = some .failed
/-- what a search gives: the matcher's word at the text's head -/
def found (q : Re) (least : Nat) (text : Array Nat) : Option Marks := if text.size < least then none else (Re.seq .at0 q).mt (fun _ _ L => some L) text.toList 0 []
theorem search {q : Re} {code text : Array Nat} {groups e least b : Nat} (c0 : wordsAt code 0 [14, 4, 0, least] = true) (hl : 0 < least) (hq : (Re.seq .at0 q).chk code 5 = some e) (he : wordsAt code e [1] = true)
    (hok : (Re.seq .at0 q).ok (2 * groups) false 0 b = true) (hW : 1 + (Re.seq .at0 q).wt (2 * groups) ≤ 16777216) (hN : 2 * (Re.seq .at0 q).tm text.size 1 + 2 * text.size + 10 ≤ 4 * 2 ^ 64) :
    Ends (2 * groups) (Sre.forSearch code text groups 0 text.size false) (found q least text) := by
  obtain ⟨p1, p2, p3⟩ := wordsAt_cons c0
  obtain ⟨-, p4, p5⟩ := wordsAt_cons p3
  obtain ⟨-, p6, p7⟩ := wordsAt_cons p5
  obtain ⟨-, p8, -⟩ := wordsAt_cons p7
  have hhead : header code = (least, 5) := by
    unfold header
    rw [p2, show ops[14]? = some .INFO from rfl]
    show (code.getD 3 0, 1 + code.getD 1 0) = _
    rw [show code.getD 3 0 = least from p8, show code.getD 1 0 = 4 from p4]
  have hset : ∀ m : M, m.code = code → m.hasFirstSet = false := fun m hm => by
    unfold M.hasFirstSet
    rw [hm, show code.getD 2 0 = 0 from p6]
    simp
  have h60 : wordsAt code 5 [6, 0] = true := by
    simp only [Re.chk] at hq
    split at hq
    · rename_i h; split at h
      · assumption
      · cases h
    · cases hq
  have e0 : Sre.forSearch code text groups 0 text.size false = (if text.size < least then (({ code, text, lim := text.size, start := 0, pc := 5, pos := 0, handed := 0, marks := Array.replicate (2 * groups) none, mustAdvance := false, seen := ({} : Seen).add 14 } : M).say false)
      else ({ code, text, lim := text.size, start := 0, pc := 5, pos := 0, handed := 0, marks := Array.replicate (2 * groups) none, mustAdvance := false, seen := ({} : Seen).add 14, lastStart := text.size - (least - 1) } : M).attemptFrom 0 true) := by
    show (if (decide (0 > text.size) || decide (text.size - 0 < (header code).1)) = true then (({ code, text, lim := text.size, start := 0, pc := (header code).2, pos := 0, handed := 0, marks := Array.replicate (2 * groups) none, mustAdvance := false, seen := if (header code).2 == 0 then {} else ({} : Seen).add 14 } : M).say false)
      else ({ code, text, lim := text.size, start := 0, pc := (header code).2, pos := 0, handed := 0, marks := Array.replicate (2 * groups) none, mustAdvance := false, seen := if (header code).2 == 0 then {} else ({} : Seen).add 14, lastStart := if (decide ((header code).1 > 1) && !((header code).2 != 0 && code.getD 2 0 &&& 5 != 0)) = true then max 0 (text.size - ((header code).1 - 1)) else text.size } : M).attemptFrom 0 true) = _
    rw [hhead, show code.getD 2 0 = 0 from p6]
    simp only [Nat.not_lt_zero, gt_iff_lt, decide_false, Bool.false_or, Nat.sub_zero, decide_eq_true_eq]
    by_cases hs : text.size < least
    · rw [if_pos hs, if_pos hs]; rfl
    · rw [if_neg hs, if_neg hs]
      congr 2
      by_cases h1 : 1 < least
      · simp [h1]
      · have : least = 1 := by lia
        subst this
        simp
  rw [e0]
  unfold found
  by_cases hs : text.size < least
  · rw [if_pos hs, if_pos hs]
    exact ⟨1, by decide, rfl⟩
  · rw [if_neg hs, if_neg hs]
    generalize hm0 : ({ code, text, lim := text.size, start := 0, pc := 5, pos := 0, handed := 0, marks := Array.replicate (2 * groups) none, mustAdvance := false, seen := ({} : Seen).add 14, lastStart := text.size - (least - 1) } : M) = m0
    have e1 : m0.attemptFrom 0 true = { m0 with start := 0, pos := 0, lastmark := -1, lastindex := -1, frames := [{ wait := .nextStart, pc := 5, pos := 0, outermost := true }], weight := 1, pc := 5, handed := 0, outermost := true } := by
      unfold M.attemptFrom
      rw [hset m0 (by rw [← hm0])]
      simp only [Bool.not_false, if_true]
      unfold M.attemptAt M.attempt
      rw [← hm0]
      rw [if_neg (by show ¬ (0 + 1 + 0 > 16777216); lia)]
      rfl
    rw [e1]
    have hA : At (2 * groups) code text { m0 with start := 0, pos := 0, lastmark := -1, lastindex := -1, frames := [{ wait := .nextStart, pc := 5, pos := 0, outermost := true }], weight := 1, pc := 5, handed := 0, outermost := true } 5 text.toList 0 [] [] := by
      rw [← hm0]
      exact ⟨rfl, rfl, rfl, rfl, rfl, rfl, Nat.zero_le _, rfl, rfl, rfl, rfl, rfl, ⟨rfl, Nat.zero_le _, by simp, fun j hj => absurd hj (Nat.not_lt_zero j)⟩, trivial, rfl⟩
    have hd := (sim (g := 2 * groups) (code := code) (text := text) (Re.seq .at0 q)).1 5 e hq [] b 0 1 1 (fun _ _ L => some L) hok hW (fun m r i L A _ _ => does_end he A) _ text.toList 0 [] hA (Nat.le_refl _) (Nat.le_refl _)
    cases hr : (Re.seq .at0 q).mt (fun _ _ L => some L) text.toList 0 [] with
    | some L =>
      rw [hr] at hd
      obtain ⟨n, m', h1, h2, h3, h4, h5, h6, h7⟩ := hd
      obtain ⟨u1, u2⟩ := unwind _ m' rfl h3 h4 h5 h6
      refine ⟨n + (m'.frames.length + 1), ?_, ?_⟩
      · have : m'.frames.length ≤ 1 + (Re.seq .at0 q).tm text.size 1 := h7
        lia
      · rw [steps_add, h2]; exact ⟨u1, u2⟩
    | none =>
      rw [hr] at hd
      obtain ⟨n, m', h1, h2, l⟩ := hd
      have hst := resume_step l.ans l.out l.frames
      by_cases hlt : 0 < m'.lastStart
      · have e3 : m'.step = M.attemptFrom { m' with answer := none, frames := [], weight := 0, pc := 5, pos := 0, outermost := true, mustAdvance := false } 1 false := by
          rw [hst]
          unfold M.resume
          simp only [Bool.false_eq_true, if_false]
          rw [if_pos hlt, l.weight]
          rfl
        have hlate := later (text := text) h60 hset (m'.lastStart + 1 - 1) 1 { m' with answer := none, frames := [], weight := 0, pc := 5, pos := 0, outermost := true, mustAdvance := false } (l.code.trans (by rw [← hm0])) (l.lim.trans (by rw [← hm0])) rfl l.out rfl rfl rfl (by lia) rfl
        refine ⟨n + (1 + (2 * (m'.lastStart + 1 - 1) + 3)), ?_, ?_⟩
        · have : m'.lastStart = text.size - (least - 1) := l.last.trans (by rw [← hm0])
          lia
        · rw [steps_add, h2, steps_add 1]
          show (steps _ m'.step).outcome = _
          rw [e3]; exact hlate
      · have e3 : m'.step = M.say { m' with answer := none, frames := [], weight := m'.weight - 1, pc := 5, pos := 0, outermost := true } false := by
          rw [hst]
          unfold M.resume
          simp only [Bool.false_eq_true, if_false]
          rw [if_neg hlt]
          rfl
        refine ⟨n + 2, by lia, ?_⟩
        rw [steps_add, h2]
        show (M.step m'.step).outcome = _
        rw [e3]
        unfold M.step M.say
        simp only [l.out, Option.isSome_none, Bool.false_eq_true, if_false]
end Mine.Rx
end
section
set_option maxRecDepth 100000
namespace Mine.Rx
open PySem PySem.Sre
/-- the signs that a text may take -/
def Re.takes (P : Nat → Bool) : Re → Prop
  | .chr c => ∀ x, c.has x = true → P x = true
  | .rep c _ _ => ∀ x, c.has x = true → P x = true
  | .opt a => a.takes P
  | .seq a b => a.takes P ∧ b.takes P
  | .alt a b => a.takes P ∧ b.takes P
  | _ => True
theorem or_some {α : Type} {a b : Option α} {z : α} (h : a.or b = some z) : a = some z ∨ b = some z := by
  cases a with
  | none => exact .inr (by simpa using h)
  | some x => exact .inl (by simpa using h)
theorem repm_sound {P : Nat → Bool} {c : Cls} {k : List Nat → Nat → Marks → Option Marks} {z : Marks} (hc : ∀ x, c.has x = true → P x = true) : ∀ (r : List Nat) (lo hi i : Nat) (L : Marks), repm c k lo hi r i L = some z →
    ∃ u r' i', r = u ++ r' ∧ u.all P = true ∧ k r' i' L = some z
  | [], lo, hi, i, L, h => by
    unfold repm at h
    split at h
    · exact ⟨[], [], i, rfl, rfl, h⟩
    · cases h
  | x :: r, lo, hi, i, L, h => by
    have plain : (if lo = 0 then k (x :: r) i L else none) = some z → ∃ u r' i', x :: r = u ++ r' ∧ u.all P = true ∧ k r' i' L = some z := fun h => by
      split at h
      · exact ⟨[], x :: r, i, rfl, rfl, h⟩
      · cases h
    unfold repm at h
    split at h
    · rename_i hx
      rcases or_some h with h | h
      · obtain ⟨u, r', i', h1, h2, h3⟩ := repm_sound hc r _ _ _ _ h
        exact ⟨x :: u, r', i', by rw [h1]; rfl, by simp [hc x hx.2, h2], h3⟩
      · exact plain h
    · exact plain h
theorem mt_sound {P : Nat → Bool} {z : Marks} : ∀ (q : Re), q.takes P → ∀ (k : List Nat → Nat → Marks → Option Marks) (r : List Nat) (i : Nat) (L : Marks), q.mt k r i L = some z → ∃ u r' i' L', r = u ++ r' ∧ u.all P = true ∧ k r' i' L' = some z := by
  intro q
  induction q with
  | at0 | at5 =>
    intro _ k r i L h
    simp only [Re.mt] at h
    split at h
    · exact ⟨[], r, i, L, rfl, rfl, h⟩
    · cases h
  | mark n => intro _ k r i L h; exact ⟨[], r, i, _, rfl, rfl, h⟩
  | chr c =>
    intro hq k r i L h
    simp only [Re.mt] at h
    split at h
    · split at h
      · rename_i x r' hx
        exact ⟨[x], r', i + 1, L, rfl, by simp [hq x hx], h⟩
      · cases h
    · cases h
  | rep c lo hi =>
    intro hq k r i L h
    obtain ⟨u, r', i', h1, h2, h3⟩ := repm_sound hq r lo hi i L h
    exact ⟨u, r', i', L, h1, h2, h3⟩
  | opt a ih =>
    intro hq k r i L h
    rcases or_some h with h | h
    · exact ih hq k r i L h
    · exact ⟨[], r, i, L, rfl, rfl, h⟩
  | seq a b iha ihb =>
    intro hq k r i L h
    obtain ⟨u, r', i', L', h1, h2, h3⟩ := iha hq.1 _ r i L h
    obtain ⟨v, r'', i'', L'', g1, g2, g3⟩ := ihb hq.2 _ r' i' L' h3
    exact ⟨u ++ v, r'', i'', L'', by rw [h1, g1, List.append_assoc], by simp [h2, g2], g3⟩
  | alt a b iha ihb =>
    intro hq k r i L h
    rcases or_some h with h | h
    · exact iha hq.1 k r i L h
    · exact ihb hq.2 k r i L h
  | dead => intro _ k r i L h; cases h

/-! words to evaluate the matcher -/
section
variable {k : List Nat → Nat → Marks → Option Marks} {r : List Nat} {i x : Nat} {L z : Marks} {c : Cls} {v : Option Marks}
theorem chr_yes (h : c.has x = true) : (Re.chr c).mt k (x :: r) i L = k r (i + 1) L := by simp [Re.mt, h]
theorem chr_no (h : c.has x = false) : (Re.chr c).mt k (x :: r) i L = none := by simp [Re.mt, h]
theorem rep01_yes (h : c.has x = true) : (Re.rep c 0 1).mt k (x :: r) i L = (k r (i + 1) L).or (k (x :: r) i L) := by
  show repm c k 0 1 (x :: r) i L = _
  unfold repm
  rw [if_pos ⟨by lia, h⟩, if_pos rfl]
  congr 1
  cases r <;> simp [repm]
theorem rep01_no (h : c.has x = false) : (Re.rep c 0 1).mt k (x :: r) i L = k (x :: r) i L := by
  show repm c k 0 1 (x :: r) i L = _
  unfold repm
  rw [if_neg (by rw [h]; simp), if_pos rfl]
theorem rep_nil {hi : Nat} : (Re.rep c 0 hi).mt k [] i L = k [] i L := by
  show repm c k 0 hi [] i L = _
  unfold repm; rw [if_pos rfl]
theorem rep0_no {hi : Nat} (h : c.has x = false) : (Re.rep c 0 hi).mt k (x :: r) i L = k (x :: r) i L := by
  show repm c k 0 hi (x :: r) i L = _
  unfold repm
  rw [if_neg (by rw [h]; simp), if_pos rfl]
theorem rep4_yes {a b d e : Nat} (ha : c.has a = true) (hb : c.has b = true) (hd : c.has d = true) (he : c.has e = true) : (Re.rep c 4 4).mt k (a :: b :: d :: e :: r) i L = k r (i + 4) L := by
  show repm c k 4 4 _ i L = _
  cases r <;> simp [repm, ha, hb, hd, he]
/-- the whole Sre.run is taken where that wins -/
theorem rep_all {lo hi : Nat} : ∀ (u : List Nat) (lo hi i : Nat), lo ≤ u.length → u.length ≤ hi → (∀ x ∈ u, c.has x = true) → k r (i + u.length) L = some z → (r = [] ∨ ∃ x r', r = x :: r' ∧ c.has x = false) → repm c k lo hi (u ++ r) i L = some z
  | [], lo, hi, i, h1, h2, h3, h4, h5 => by
    have h0 : lo = 0 := by simpa using h1
    subst h0
    rcases h5 with rfl | ⟨x, r', rfl, h5⟩
    · show repm c k 0 hi [] i L = _; unfold repm; rw [if_pos rfl]; exact h4
    · show repm c k 0 hi (x :: r') i L = _; unfold repm; rw [if_neg (by rw [h5]; simp), if_pos rfl]; exact h4
  | y :: u, lo, hi, i, h1, h2, h3, h4, h5 => by
    simp only [List.length_cons] at h1 h2 h4
    show repm c k lo hi (y :: (u ++ r)) i L = _
    unfold repm
    rw [if_pos ⟨by lia, h3 y (by simp)⟩, rep_all (lo := lo) (hi := hi) u (lo - 1) (hi - 1) (i + 1) (by lia) (by lia) (fun x hx => h3 x (by simp [hx])) (by rw [show i + 1 + u.length = i + (u.length + 1) by lia]; exact h4) h5]
    rfl
end
end Mine.Rx
end
section
set_option maxRecDepth 100000
namespace Mine.Rx
open PySem PySem.Sre
def dd : Re := .seq (.chr .digit) (.rep .digit 0 1)
def two2 : Re := .seq (.chr .digit) (.chr .digit)
def zoneN : Re := .seq (.rep (.two 45 43) 0 1) (.seq dd (.seq (.rep (.lit 58) 0 1) (.opt (.seq (.mark 14) (.seq (.rep (.lit 58) 0 1) (.seq two2 (.mark 15)))))))
def zone : Re := .seq (.mark 12) (.seq (.alt zoneN (.alt (.chr (.lit 90)) (.alt (.chr (.lit 122)) .dead))) (.seq (.mark 13) (.rep .space 0 4294967295)))
def tailR : Re := .seq (.rep .space 0 4294967295) (.seq (.opt zone) .at5)
abbrev fin : List Nat → Nat → Marks → Option Marks := fun _ _ L => some L
theorem dig_ne {x : Nat} (h : isDigit x = true) {n : Nat} (hn : isDigit n = false) : (x == n) = false := by
  rw [beq_eq_false_iff_ne]; rintro rfl; rw [h] at hn; cases hn
theorem dig_sp {x : Nat} (h : isDigit x = true) : isSpace x = false := by
  simp only [isDigit, isSpace, Bool.and_eq_true, decide_eq_true_eq] at h ⊢
  simp only [Bool.or_eq_false_iff, Bool.and_eq_false_iff, decide_eq_false_iff_not, beq_eq_false_iff_ne]; lia
theorem sp_dig {x : Nat} (h : isSpace x = true) : isDigit x = false := by
  cases hd : isDigit x with
  | false => rfl
  | true => rw [dig_sp hd] at h; cases h
theorem sp_ne {x : Nat} (h : isSpace x = true) {n : Nat} (hn : isSpace n = false) : (x == n) = false := by
  rw [beq_eq_false_iff_ne]; rintro rfl; rw [h] at hn; cases hn
/-- blanks at the end -/
theorem spaces_end {sp : List Nat} (hsp : ∀ x ∈ sp, isSpace x = true) (hlen : sp.length ≤ 100) (i : Nat) (L : Marks) : (Re.rep .space 0 4294967295).mt (Re.at5.mt fin) sp i L = some L := by
  have := rep_all (c := .space) (k := Re.at5.mt fin) (r := []) (z := L) (L := L) (lo := 0) (hi := 4294967295) sp 0 4294967295 i (Nat.zero_le _) (by lia) hsp (by simp [Re.mt]) (.inl rfl)
  rw [List.append_nil] at this
  exact this
/-- behind the zone's figures: no more of it -/
theorem optN_no {k : List Nat → Nat → Marks → Option Marks} {sp : List Nat} (hsp : ∀ x ∈ sp, isSpace x = true) (i : Nat) (L : Marks) : (Re.opt (.seq (.mark 14) (.seq (.rep (.lit 58) 0 1) (.seq two2 (.mark 15))))).mt k sp i L = k sp i L := by
  cases sp with
  | nil => rfl
  | cons x r =>
    have hx := hsp x (by simp)
    simp only [two2, Re.mt, repm, Cls.has, sp_ne hx (show isSpace 58 = false by decide), sp_dig hx]
    simp
theorem rep58_no {k : List Nat → Nat → Marks → Option Marks} {sp : List Nat} (hsp : ∀ x ∈ sp, isSpace x = true) (i : Nat) (L : Marks) : (Re.rep (.lit 58) 0 1).mt k sp i L = k sp i L := by
  cases sp with
  | nil => exact rep_nil
  | cons x r => exact rep01_no (sp_ne (hsp x (by simp)) (by decide))
theorem repd_no {k : List Nat → Nat → Marks → Option Marks} {sp : List Nat} (hsp : ∀ x ∈ sp, isSpace x = true) (i : Nat) (L : Marks) : (Re.rep .digit 0 1).mt k sp i L = k sp i L := by
  cases sp with
  | nil => exact rep_nil
  | cons x r => exact rep01_no (sp_dig (hsp x (by simp)))
/-- the figures of a zone: hh or h, a colon or none, mm or none, behind them blanks; what is behind wins -/
theorem figs_hhmm {k : List Nat → Nat → Marks → Option Marks} {a b c d : Nat} {r : List Nat} {i : Nat} {L z : Marks} (ha : isDigit a = true) (hb : isDigit b = true) (hc : isDigit c = true) (hd : isDigit d = true)
    (h : k r (i + 4) (setMark (setMark L 14 (i + 2)) 15 (i + 4)) = some z) : (Re.seq dd (.seq (.rep (.lit 58) 0 1) (.opt (.seq (.mark 14) (.seq (.rep (.lit 58) 0 1) (.seq two2 (.mark 15))))))).mt k (a :: b :: c :: d :: r) i L = some z := by
  simp only [dd, two2, Re.mt, repm, Cls.has, ha, hb, hc, hd, dig_ne hc (show isDigit 58 = false by decide), dig_ne hd (show isDigit 58 = false by decide)]
  simp [h]
abbrev restF : Re := .seq (.rep (.lit 58) 0 1) (.opt (.seq (.mark 14) (.seq (.rep (.lit 58) 0 1) (.seq two2 (.mark 15)))))
abbrev figs : Re := .seq dd restF
theorem figs_eq (k : List Nat → Nat → Marks → Option Marks) (r : List Nat) (i : Nat) (L : Marks) : figs.mt k r i L = (Re.chr .digit).mt ((Re.rep .digit 0 1).mt (restF.mt k)) r i L := rfl
section
variable {k : List Nat → Nat → Marks → Option Marks} {a b c d : Nat} {r sp : List Nat} {i : Nat} {L z : Marks}
theorem n58 : isDigit 58 = false := by decide
theorem figs_hhcmm (ha : isDigit a = true) (hb : isDigit b = true) (hc : isDigit c = true) (hd : isDigit d = true) (h : k r (i + 5) (setMark (setMark L 14 (i + 3)) 15 (i + 5)) = some z) : figs.mt k (a :: b :: 58 :: c :: d :: r) i L = some z := by
  simp only [dd, two2, Re.mt, repm, Cls.has, ha, hb, hc, hd, n58, dig_ne hc n58, dig_ne hd n58]
  simp [h]
theorem figs_hhccmm (ha : isDigit a = true) (hb : isDigit b = true) (hc : isDigit c = true) (hd : isDigit d = true) (h : k r (i + 6) (setMark (setMark L 14 (i + 3)) 15 (i + 6)) = some z) : figs.mt k (a :: b :: 58 :: 58 :: c :: d :: r) i L = some z := by
  simp only [dd, two2, Re.mt, repm, Cls.has, ha, hb, hc, hd, n58, dig_ne hc n58, dig_ne hd n58]
  simp [h]
theorem figs_hcmm (ha : isDigit a = true) (hc : isDigit c = true) (hd : isDigit d = true) (h : k r (i + 4) (setMark (setMark L 14 (i + 2)) 15 (i + 4)) = some z) : figs.mt k (a :: 58 :: c :: d :: r) i L = some z := by
  simp only [dd, two2, Re.mt, repm, Cls.has, ha, hc, hd, n58, dig_ne hc n58, dig_ne hd n58]
  simp [h]
theorem figs_hh (ha : isDigit a = true) (hb : isDigit b = true) (hsp : ∀ x ∈ sp, isSpace x = true) (h : k sp (i + 2) L = some z) : figs.mt k (a :: b :: sp) i L = some z := by
  rw [figs_eq, chr_yes (show Cls.digit.has a = true from ha), rep01_yes (show Cls.digit.has b = true from hb)]
  show ((Re.rep (.lit 58) 0 1).mt _ sp (i + 1 + 1) L).or _ = _
  rw [rep58_no hsp, optN_no hsp, h]; rfl
theorem figs_h (ha : isDigit a = true) (hsp : ∀ x ∈ sp, isSpace x = true) (h : k sp (i + 1) L = some z) : figs.mt k (a :: sp) i L = some z := by
  rw [figs_eq, chr_yes (show Cls.digit.has a = true from ha), repd_no hsp]
  show (Re.rep (.lit 58) 0 1).mt _ sp (i + 1) L = _
  rw [rep58_no hsp, optN_no hsp, h]
theorem figs_hhc (ha : isDigit a = true) (hb : isDigit b = true) (hsp : ∀ x ∈ sp, isSpace x = true) (h : k sp (i + 3) L = some z) : figs.mt k (a :: b :: 58 :: sp) i L = some z := by
  rw [figs_eq, chr_yes (show Cls.digit.has a = true from ha), rep01_yes (show Cls.digit.has b = true from hb)]
  show ((Re.rep (.lit 58) 0 1).mt _ (58 :: sp) (i + 1 + 1) L).or _ = _
  rw [rep01_yes (show (Cls.lit 58).has 58 = true from rfl), optN_no hsp, h]; rfl
/-- with a sign or none -/
theorem zoneN_sign {s : Nat} (hs : s = 45 ∨ s = 43) (h : figs.mt k r (i + 1) L = some z) : zoneN.mt k (s :: r) i L = some z := by
  show (Re.rep (.two 45 43) 0 1).mt (figs.mt k) (s :: r) i L = _
  rw [rep01_yes (by rcases hs with rfl | rfl <;> rfl), h]; rfl
theorem zoneN_bare (ha : isDigit a = true) (h : figs.mt k (a :: r) i L = some z) : zoneN.mt k (a :: r) i L = some z := by
  show (Re.rep (.two 45 43) 0 1).mt (figs.mt k) (a :: r) i L = _
  rw [rep01_no (by show (a == 45 || a == 43) = false; rw [dig_ne ha (by decide), dig_ne ha (by decide)]; rfl), h]
/-- behind the zone: its end is marked, blanks, the end -/
def endZ : List Nat → Nat → Marks → Option Marks := fun r i L => (Re.rep .space 0 4294967295).mt (Re.at5.mt fin) r i (setMark L 13 i)
theorem endZ_spaces (hsp : ∀ x ∈ sp, isSpace x = true) (hl : sp.length ≤ 100) : endZ sp i L = some (setMark L 13 i) := spaces_end hsp hl i _
/-- the tail: blanks, a zone that wins -/
theorem tail_zone {s1 : List Nat} {x : Nat} (h1 : ∀ x ∈ s1, isSpace x = true) (hl : s1.length ≤ 100) (hx : isSpace x = false) (h : zoneN.mt endZ (x :: r) (i + s1.length) (setMark L 12 (i + s1.length)) = some z) : tailR.mt fin (s1 ++ x :: r) i L = some z := by
  show repm .space ((Re.seq (.opt zone) .at5).mt fin) 0 4294967295 (s1 ++ x :: r) i L = _
  refine rep_all (lo := 0) (hi := 0) s1 0 4294967295 i (Nat.zero_le _) (by lia) h1 ?_ (.inr ⟨x, r, rfl, hx⟩)
  show ((zoneN.mt endZ (x :: r) (i + s1.length) (setMark L 12 (i + s1.length))).or _).or _ = _
  rw [h]; rfl
theorem tail_Z {s1 : List Nat} {x : Nat} (h1 : ∀ x ∈ s1, isSpace x = true) (hl : s1.length ≤ 100) (hx : x = 90 ∨ x = 122) (hsp : ∀ x ∈ sp, isSpace x = true) (hl2 : sp.length ≤ 100) :
    tailR.mt fin (s1 ++ x :: sp) i L = some (setMark (setMark L 12 (i + s1.length)) 13 (i + s1.length + 1)) := by
  show repm .space ((Re.seq (.opt zone) .at5).mt fin) 0 4294967295 (s1 ++ x :: sp) i L = _
  refine rep_all (lo := 0) (hi := 0) s1 0 4294967295 i (Nat.zero_le _) (by lia) h1 ?_ (.inr ⟨x, sp, rfl, by rcases hx with rfl | rfl <;> decide⟩)
  show ((zoneN.mt endZ (x :: sp) (i + s1.length) (setMark L 12 (i + s1.length))).or (((Re.chr (.lit 90)).mt endZ (x :: sp) (i + s1.length) (setMark L 12 (i + s1.length))).or (((Re.chr (.lit 122)).mt endZ (x :: sp) (i + s1.length) (setMark L 12 (i + s1.length))).or none))).or _ = _
  have e : zoneN.mt endZ (x :: sp) (i + s1.length) (setMark L 12 (i + s1.length)) = none := by
    show (Re.rep (.two 45 43) 0 1).mt (figs.mt endZ) (x :: sp) _ _ = _
    rw [rep01_no (by rcases hx with rfl | rfl <;> rfl)]
    exact chr_no (by rcases hx with rfl | rfl <;> rfl)
  rw [e]
  rcases hx with rfl | rfl
  · rw [chr_yes rfl, endZ_spaces hsp hl2]; rfl
  · rw [chr_no rfl, chr_yes rfl, endZ_spaces hsp hl2]; rfl
theorem tail_none (hsp : ∀ x ∈ sp, isSpace x = true) (hl : sp.length ≤ 100) : tailR.mt fin sp i L = some L := by
  show repm .space ((Re.seq (.opt zone) .at5).mt fin) 0 4294967295 sp i L = _
  have := rep_all (c := .space) (k := (Re.seq (.opt zone) .at5).mt fin) (r := []) (z := L) (L := L) (lo := 0) (hi := 0) sp 0 4294967295 i (Nat.zero_le _) (by lia) hsp (by rfl) (.inl rfl)
  rwa [List.append_nil] at this
end
end Mine.Rx
end
section
set_option maxRecDepth 100000
namespace Mine.Rx
open PySem PySem.Sre
def sec : Re := .seq (.rep (.lit 58) 0 1) (.seq (.mark 10) (.seq two2 (.seq (.opt (.seq (.chr (.lit 46)) (.rep .digit 0 4294967295))) (.mark 11))))
abbrev time4 : Re := .seq (.mark 6) (.seq dd (.seq (.mark 7) (.seq (.rep (.lit 58) 0 1) (.seq (.mark 8) (.seq two2 (.seq (.mark 9) (.opt sec)))))))
def clock : Re := .seq (.alt (.rep .space 1 4294967295) (.alt (.chr .sep) .dead)) time4
/-- no figure at the head -/
def NoFig (r : List Nat) : Prop := ∀ x r', r = x :: r' → isDigit x = false
section
variable {k : List Nat → Nat → Marks → Option Marks} {a b c d : Nat} {r sp : List Nat} {i : Nat} {L z : Marks}
theorem time4_eq (k : List Nat → Nat → Marks → Option Marks) (r : List Nat) (i : Nat) (L : Marks) : time4.mt k r i L = (Re.chr .digit).mt ((Re.rep .digit 0 1).mt ((Re.mark 7).mt ((Re.rep (.lit 58) 0 1).mt ((Re.mark 8).mt ((Re.chr .digit).mt ((Re.chr .digit).mt ((Re.mark 9).mt ((Re.opt sec).mt k)))))))) r i (setMark L 6 i) := rfl
theorem time4_none (h : NoFig r) : time4.mt k r i L = none := by
  rw [time4_eq]
  cases r with
  | nil => rfl
  | cons x r => exact chr_no (h x r rfl)
theorem time_hhmm (ha : isDigit a = true) (hb : isDigit b = true) (hc : isDigit c = true) (hd : isDigit d = true) (h : (Re.opt sec).mt k r (i + 4) (setMark (setMark (setMark (setMark L 6 i) 7 (i + 2)) 8 (i + 2)) 9 (i + 4)) = some z) : time4.mt k (a :: b :: c :: d :: r) i L = some z := by
  rw [time4_eq, chr_yes (show Cls.digit.has a = true from ha), rep01_yes (show Cls.digit.has b = true from hb)]
  show ((Re.rep (.lit 58) 0 1).mt _ (c :: d :: r) _ _).or _ = _
  rw [rep01_no (show (Cls.lit 58).has c = false from dig_ne hc n58)]
  show ((Re.chr .digit).mt _ (c :: d :: r) _ _).or _ = _
  rw [chr_yes (show Cls.digit.has c = true from hc), chr_yes (show Cls.digit.has d = true from hd)]
  show ((Re.opt sec).mt k r (i + 4) _).or _ = _
  rw [h]; rfl
theorem time_hhcmm (ha : isDigit a = true) (hb : isDigit b = true) (hc : isDigit c = true) (hd : isDigit d = true) (h : (Re.opt sec).mt k r (i + 5) (setMark (setMark (setMark (setMark L 6 i) 7 (i + 2)) 8 (i + 3)) 9 (i + 5)) = some z) : time4.mt k (a :: b :: 58 :: c :: d :: r) i L = some z := by
  rw [time4_eq, chr_yes (show Cls.digit.has a = true from ha), rep01_yes (show Cls.digit.has b = true from hb)]
  show ((Re.rep (.lit 58) 0 1).mt _ (58 :: c :: d :: r) _ _).or _ = _
  rw [rep01_yes (show (Cls.lit 58).has 58 = true from rfl)]
  show (((Re.chr .digit).mt _ (c :: d :: r) _ _).or _).or _ = _
  rw [chr_yes (show Cls.digit.has c = true from hc), chr_yes (show Cls.digit.has d = true from hd)]
  show (((Re.opt sec).mt k r (i + 5) _).or _).or _ = _
  rw [h]; rfl
theorem time_hcmm (ha : isDigit a = true) (hc : isDigit c = true) (hd : isDigit d = true) (h : (Re.opt sec).mt k r (i + 4) (setMark (setMark (setMark (setMark L 6 i) 7 (i + 1)) 8 (i + 2)) 9 (i + 4)) = some z) : time4.mt k (a :: 58 :: c :: d :: r) i L = some z := by
  rw [time4_eq, chr_yes (show Cls.digit.has a = true from ha), rep01_no (show Cls.digit.has 58 = false from n58)]
  show (Re.rep (.lit 58) 0 1).mt _ (58 :: c :: d :: r) _ _ = _
  rw [rep01_yes (show (Cls.lit 58).has 58 = true from rfl)]
  show ((Re.chr .digit).mt _ (c :: d :: r) _ _).or _ = _
  rw [chr_yes (show Cls.digit.has c = true from hc), chr_yes (show Cls.digit.has d = true from hd)]
  show ((Re.opt sec).mt k r (i + 4) _).or _ = _
  rw [h]; rfl
/-- neither a figure nor a colon nor a point at the head -/
def Plain (r : List Nat) : Prop := ∀ x r', r = x :: r' → isDigit x = false ∧ (x == 58) = false ∧ (x == 46) = false
theorem sec_none (h : Plain r) : (Re.opt sec).mt k r i L = k r i L := by
  cases r with
  | nil => rfl
  | cons x r =>
    obtain ⟨h1, h2, h3⟩ := h x r rfl
    simp [sec, two2, Re.mt, repm, Cls.has, h1, h2]
theorem point_none (h : Plain r) {L : Marks} : (Re.opt (.seq (.chr (.lit 46)) (.rep .digit 0 4294967295))).mt k r i L = k r i L := by
  cases r with
  | nil => rfl
  | cons x r =>
    obtain ⟨h1, h2, h3⟩ := h x r rfl
    show ((Re.chr (.lit 46)).mt _ (x :: r) i L).or _ = _
    rw [chr_no (show (Cls.lit 46).has x = false from h3)]; rfl
theorem sec_ss (ha : isDigit a = true) (hb : isDigit b = true) (hr : Plain r) (h : k r (i + 2) (setMark (setMark L 10 i) 11 (i + 2)) = some z) : (Re.opt sec).mt k (a :: b :: r) i L = some z := by
  show ((Re.rep (.lit 58) 0 1).mt ((Re.mark 10).mt ((Re.chr .digit).mt ((Re.chr .digit).mt ((Re.opt (.seq (.chr (.lit 46)) (.rep .digit 0 4294967295))).mt ((Re.mark 11).mt k))))) (a :: b :: r) i L).or _ = _
  rw [rep01_no (show (Cls.lit 58).has a = false from dig_ne ha n58)]
  show ((Re.chr .digit).mt _ (a :: b :: r) i _).or _ = _
  rw [chr_yes (show Cls.digit.has a = true from ha), chr_yes (show Cls.digit.has b = true from hb), point_none hr]
  show (k r (i + 2) _).or _ = _
  rw [h]; rfl
theorem sec_css (ha : isDigit a = true) (hb : isDigit b = true) (hr : Plain r) (h : k r (i + 3) (setMark (setMark L 10 (i + 1)) 11 (i + 3)) = some z) : (Re.opt sec).mt k (58 :: a :: b :: r) i L = some z := by
  show ((Re.rep (.lit 58) 0 1).mt ((Re.mark 10).mt ((Re.chr .digit).mt ((Re.chr .digit).mt ((Re.opt (.seq (.chr (.lit 46)) (.rep .digit 0 4294967295))).mt ((Re.mark 11).mt k))))) (58 :: a :: b :: r) i L).or _ = _
  rw [rep01_yes (show (Cls.lit 58).has 58 = true from rfl)]
  show (((Re.chr .digit).mt _ (a :: b :: r) (i + 1) _).or _).or _ = _
  rw [chr_yes (show Cls.digit.has a = true from ha), chr_yes (show Cls.digit.has b = true from hb), point_none hr]
  show ((k r (i + 3) _).or _).or _ = _
  rw [h]; rfl
/-- the clock behind one sign -/
theorem clock_sep {x : Nat} (hx : Cls.sep.has x = true) (hs : isSpace x = false) (h : time4.mt k r (i + 1) L = some z) : (Re.opt clock).mt k (x :: r) i L = some z := by
  show (((Re.rep .space 1 4294967295).mt (time4.mt k) (x :: r) i L).or (((Re.chr .sep).mt (time4.mt k) (x :: r) i L).or none)).or _ = _
  have e : (Re.rep .space 1 4294967295).mt (time4.mt k) (x :: r) i L = none := by
    show repm .space _ 1 4294967295 (x :: r) i L = _
    unfold repm
    rw [if_neg (by rw [show Cls.space.has x = false from hs]; simp), if_neg (by decide)]
  rw [e, chr_yes hx, h]; rfl
/-- the clock behind blanks -/
theorem clock_sp {s1 : List Nat} {x : Nat} (h1 : ∀ x ∈ s1, isSpace x = true) (h0 : 1 ≤ s1.length) (hl : s1.length ≤ 100) (hx : isSpace x = false) (h : time4.mt k (x :: r) (i + s1.length) L = some z) : (Re.opt clock).mt k (s1 ++ x :: r) i L = some z := by
  show (((Re.rep .space 1 4294967295).mt (time4.mt k) (s1 ++ x :: r) i L).or _).or _ = _
  rw [show (Re.rep .space 1 4294967295).mt (time4.mt k) (s1 ++ x :: r) i L = some z from rep_all (lo := 0) (hi := 0) s1 1 4294967295 i h0 (by lia) h1 h (.inr ⟨x, r, rfl, hx⟩)]
  rfl
/-- no clock: blanks, then what is no figure -/
theorem rep_none {c : Cls} (hk : ∀ r i, NoFig r → k r i L = none) : ∀ (s1 : List Nat) (lo hi i : Nat), (∀ x ∈ s1, isDigit x = false) → NoFig r → (∀ x r', r = x :: r' → c.has x = false) → repm c k lo hi (s1 ++ r) i L = none
  | [], lo, hi, i, h1, h2, h3 => by
    cases r with
    | nil => show repm c k lo hi [] i L = _; unfold repm; split <;> first | exact hk _ _ h2 | rfl
    | cons x r =>
      show repm c k lo hi (x :: r) i L = _; unfold repm
      rw [if_neg (by rw [h3 x r rfl]; simp)]
      split <;> first | exact hk _ _ h2 | rfl
  | y :: s1, lo, hi, i, h1, h2, h3 => by
    have hy : NoFig (y :: (s1 ++ r)) := fun x r' e => by cases e; exact h1 y (by simp)
    show repm c k lo hi (y :: (s1 ++ r)) i L = _
    unfold repm
    split
    · rw [rep_none hk s1 _ _ _ (fun x hx => h1 x (by simp [hx])) h2 h3]
      split <;> first | exact hk _ _ hy | rfl
    · split <;> first | exact hk _ _ hy | rfl
theorem clock_none {s1 : List Nat} (h1 : ∀ x ∈ s1, isSpace x = true) (h2 : NoFig r) (h3 : ∀ x r', r = x :: r' → isSpace x = false ∧ (s1 = [] → Cls.sep.has x = false)) : (Re.opt clock).mt k (s1 ++ r) i L = k (s1 ++ r) i L := by
  show (((Re.rep .space 1 4294967295).mt (time4.mt k) (s1 ++ r) i L).or (((Re.chr .sep).mt (time4.mt k) (s1 ++ r) i L).or none)).or _ = _
  rw [show (Re.rep .space 1 4294967295).mt (time4.mt k) (s1 ++ r) i L = none from rep_none (fun r i h => time4_none h) s1 _ _ _ (fun x hx => sp_dig (h1 x hx)) h2 fun x r' e => (h3 x r' e).1]
  have e : (Re.chr .sep).mt (time4.mt k) (s1 ++ r) i L = none := by
    cases s1 with
    | nil =>
      cases r with
      | nil => rfl
      | cons x r => exact chr_no ((h3 x r rfl).2 rfl)
    | cons y s1 =>
      have hy := h1 y (by simp)
      refine chr_no ?_
      show (y == 45 || y == 58 || y == 84 || y == 116) = false
      rw [sp_ne hy (by decide), sp_ne hy (by decide), sp_ne hy (by decide), sp_ne hy (by decide)]; rfl
  rw [e]; rfl
end
end Mine.Rx
end
section
set_option maxRecDepth 100000
namespace Mine.Rx
open PySem PySem.Sre
abbrev rest0 : Re := .seq (.opt clock) tailR
def iso : Re := .seq (.mark 0) (.seq (.rep .digit 4 4) (.seq (.mark 1) (.seq (.rep (.two 45 47) 0 1) (.seq (.mark 2) (.seq dd (.seq (.mark 3) (.seq (.rep (.two 45 47) 0 1) (.seq (.mark 4) (.seq dd (.seq (.mark 5) rest0))))))))))
abbrev kDay (K : List Nat → Nat → Marks → Option Marks) : List Nat → Nat → Marks → Option Marks := (Re.chr .digit).mt ((Re.rep .digit 0 1).mt ((Re.mark 5).mt K))
abbrev kMon (K : List Nat → Nat → Marks → Option Marks) : List Nat → Nat → Marks → Option Marks := (Re.chr .digit).mt ((Re.rep .digit 0 1).mt ((Re.mark 3).mt ((Re.rep (.two 45 47) 0 1).mt ((Re.mark 4).mt (kDay K)))))
theorem iso_eq (r : List Nat) (i : Nat) (L : Marks) : iso.mt fin r i L = (Re.mark 0).mt ((Re.rep .digit 4 4).mt ((Re.mark 1).mt ((Re.rep (.two 45 47) 0 1).mt ((Re.mark 2).mt (kMon (rest0.mt fin)))))) r i L := rfl
section
variable {K : List Nat → Nat → Marks → Option Marks} {a b c d : Nat} {r : List Nat} {i : Nat} {L z : Marks}
theorem two_no {x : Nat} (h : isDigit x = true) : (Cls.two 45 47).has x = false := by
  show (x == 45 || x == 47) = false
  rw [dig_ne h (by decide), dig_ne h (by decide)]; rfl
/-- the day: two figures, or one and no figure behind -/
theorem day2 (ha : isDigit a = true) (hb : isDigit b = true) (h : K r (i + 2) (setMark L 5 (i + 2)) = some z) : kDay K (a :: b :: r) i L = some z := by
  rw [kDay, chr_yes (show Cls.digit.has a = true from ha), rep01_yes (show Cls.digit.has b = true from hb)]
  show (K r (i + 2) _).or _ = _
  rw [h]; rfl
theorem day1 (ha : isDigit a = true) (hr : NoFig r) (h : K r (i + 1) (setMark L 5 (i + 1)) = some z) : kDay K (a :: r) i L = some z := by
  rw [kDay, chr_yes (show Cls.digit.has a = true from ha)]
  cases r with
  | nil => rw [rep_nil]; exact h
  | cons x r => rw [rep01_no (show Cls.digit.has x = false from hr x r rfl)]; exact h
/-- the month, two figures; a sign behind, or a figure -/
theorem mon2s {s : Nat} (ha : isDigit a = true) (hb : isDigit b = true) (hs : s = 45 ∨ s = 47) (h : kDay K r (i + 3) (setMark (setMark L 3 (i + 2)) 4 (i + 3)) = some z) : kMon K (a :: b :: s :: r) i L = some z := by
  rw [kMon, chr_yes (show Cls.digit.has a = true from ha), rep01_yes (show Cls.digit.has b = true from hb)]
  show ((Re.rep (.two 45 47) 0 1).mt _ (s :: r) (i + 2) _).or _ = _
  rw [rep01_yes (by rcases hs with rfl | rfl <;> rfl)]
  show ((kDay K r (i + 3) _).or _).or _ = _
  rw [h]; rfl
theorem mon2 (ha : isDigit a = true) (hb : isDigit b = true) (hc : isDigit c = true) (h : kDay K (c :: r) (i + 2) (setMark (setMark L 3 (i + 2)) 4 (i + 2)) = some z) : kMon K (a :: b :: c :: r) i L = some z := by
  rw [kMon, chr_yes (show Cls.digit.has a = true from ha), rep01_yes (show Cls.digit.has b = true from hb)]
  show ((Re.rep (.two 45 47) 0 1).mt _ (c :: r) (i + 2) _).or _ = _
  rw [rep01_no (two_no hc)]
  show (kDay K (c :: r) (i + 2) _).or _ = _
  rw [h]; rfl
theorem mon1s {s : Nat} (ha : isDigit a = true) (hs : s = 45 ∨ s = 47) (h : kDay K r (i + 2) (setMark (setMark L 3 (i + 1)) 4 (i + 2)) = some z) : kMon K (a :: s :: r) i L = some z := by
  rw [kMon, chr_yes (show Cls.digit.has a = true from ha), rep01_no (by rcases hs with rfl | rfl <;> rfl)]
  show (Re.rep (.two 45 47) 0 1).mt _ (s :: r) (i + 1) _ = _
  rw [rep01_yes (by rcases hs with rfl | rfl <;> rfl)]
  show (kDay K r (i + 2) _).or _ = _
  rw [h]; rfl
/-- the year, a sign or none behind -/
theorem year_s {s : Nat} (ha : isDigit a = true) (hb : isDigit b = true) (hc : isDigit c = true) (hd : isDigit d = true) (hs : s = 45 ∨ s = 47) (h : kMon (rest0.mt fin) r 5 [some 0, some 4, some 5] = some z) : iso.mt fin (a :: b :: c :: d :: s :: r) 0 [] = some z := by
  rw [iso_eq]
  show (Re.rep .digit 4 4).mt _ _ 0 [some 0] = _
  rw [rep4_yes (show Cls.digit.has a = true from ha) (show Cls.digit.has b = true from hb) (show Cls.digit.has c = true from hc) (show Cls.digit.has d = true from hd)]
  show (Re.rep (.two 45 47) 0 1).mt _ (s :: r) (0 + 4) [some 0, some 4] = _
  rw [rep01_yes (by rcases hs with rfl | rfl <;> rfl)]
  show (kMon (rest0.mt fin) r 5 [some 0, some 4, some 5]).or _ = _
  rw [h]; rfl
theorem year_n {s : Nat} (ha : isDigit a = true) (hb : isDigit b = true) (hc : isDigit c = true) (hd : isDigit d = true) (hs : isDigit s = true) (h : kMon (rest0.mt fin) (s :: r) 4 [some 0, some 4, some 4] = some z) : iso.mt fin (a :: b :: c :: d :: s :: r) 0 [] = some z := by
  rw [iso_eq]
  show (Re.rep .digit 4 4).mt _ _ 0 [some 0] = _
  rw [rep4_yes (show Cls.digit.has a = true from ha) (show Cls.digit.has b = true from hb) (show Cls.digit.has c = true from hc) (show Cls.digit.has d = true from hd)]
  show (Re.rep (.two 45 47) 0 1).mt _ (s :: r) (0 + 4) [some 0, some 4] = _
  rw [rep01_no (two_no hs)]
  exact h
theorem rest_pt : rest0.mt fin (46 :: r) i L = none := by
  show (Re.opt clock).mt (tailR.mt fin) ([] ++ 46 :: r) i L = _
  rw [clock_none (by simp) (fun x r' e => by cases e; decide) (fun x r' e => by cases e; exact ⟨by decide, fun _ => by decide⟩)]
  show (Re.rep .space 0 4294967295).mt ((Re.opt zone).mt (Re.at5.mt fin)) (46 :: r) i L = _
  rw [rep0_no (by decide)]
  have hz : zone.mt (Re.at5.mt fin) (46 :: r) i L = none := by
    show (((Re.rep (.two 45 43) 0 1).mt (figs.mt endZ) (46 :: r) i (setMark L 12 i)).or (((Re.chr (.lit 90)).mt endZ (46 :: r) i (setMark L 12 i)).or (((Re.chr (.lit 122)).mt endZ (46 :: r) i (setMark L 12 i)).or none))) = _
    rw [rep01_no (by decide), figs_eq, chr_no (by decide), chr_no (by decide), chr_no (by decide)]; rfl
  show (zone.mt _ _ _ _).or _ = _
  rw [hz]
  simp [Re.mt]
theorem kMon_46 (K : List Nat → Nat → Marks → Option Marks) (r : List Nat) (i : Nat) (L : Marks) : kMon K (46 :: r) i L = none := chr_no (c := .digit) rfl
theorem kDay_46 (K : List Nat → Nat → Marks → Option Marks) (r : List Nat) (i : Nat) (L : Marks) : kDay K (46 :: r) i L = none := chr_no (c := .digit) rfl
/-- a point behind the year -/
theorem point_one (ha : isDigit a = true) (hb : isDigit b = true) (hc : isDigit c = true) (hd : isDigit d = true) : iso.mt fin (a :: b :: c :: d :: 46 :: r) 0 [] = none := by
  rw [iso_eq]
  show (Re.rep .digit 4 4).mt _ _ 0 [some 0] = _
  rw [rep4_yes (show Cls.digit.has a = true from ha) (show Cls.digit.has b = true from hb) (show Cls.digit.has c = true from hc) (show Cls.digit.has d = true from hd)]
  show (Re.rep (.two 45 47) 0 1).mt _ (46 :: r) (0 + 4) [some 0, some 4] = _
  rw [rep01_no (c := .two 45 47) (x := 46) (by decide)]
  exact kMon_46 (rest0.mt fin) r 4 (setMark [some 0, some 4] 2 4)
/-- a point behind the month -/
theorem kMon_pt1 (ha : isDigit a = true) : kMon (rest0.mt fin) (a :: 46 :: r) i L = none := by
  rw [kMon, chr_yes (show Cls.digit.has a = true from ha), rep01_no (c := .digit) (x := 46) (by decide)]
  show (Re.rep (.two 45 47) 0 1).mt ((Re.mark 4).mt (kDay (rest0.mt fin))) (46 :: r) (i + 1) (setMark L 3 (i + 1)) = none
  rw [rep01_no (c := .two 45 47) (x := 46) (by decide)]
  exact kDay_46 (rest0.mt fin) r (i + 1) (setMark (setMark L 3 (i + 1)) 4 (i + 1))
theorem kMon_pt2 (ha : isDigit a = true) (hb : isDigit b = true) : kMon (rest0.mt fin) (a :: b :: 46 :: r) i L = none := by
  rw [kMon, chr_yes (show Cls.digit.has a = true from ha), rep01_yes (show Cls.digit.has b = true from hb)]
  show ((Re.rep (.two 45 47) 0 1).mt ((Re.mark 4).mt (kDay (rest0.mt fin))) (46 :: r) (i + 1 + 1) (setMark L 3 (i + 1 + 1))).or ((Re.rep (.two 45 47) 0 1).mt ((Re.mark 4).mt (kDay (rest0.mt fin))) (b :: 46 :: r) (i + 1) (setMark L 3 (i + 1))) = none
  rw [rep01_no (c := .two 45 47) (x := 46) (by decide), rep01_no (two_no hb)]
  have e1 : ∀ i L, kDay (rest0.mt fin) (46 :: r) i L = none := fun i L => kDay_46 _ _ _ _
  have e2 : ∀ i L, kDay (rest0.mt fin) (b :: 46 :: r) i L = none := fun i L => by
    rw [kDay, chr_yes (show Cls.digit.has b = true from hb), rep01_no (c := .digit) (x := 46) (by decide)]
    exact rest_pt (r := r) (i := i + 1) (L := setMark L 5 (i + 1))
  show (kDay (rest0.mt fin) (46 :: r) (i + 1 + 1) (setMark (setMark L 3 (i + 1 + 1)) 4 (i + 1 + 1))).or (kDay (rest0.mt fin) (b :: 46 :: r) (i + 1) (setMark (setMark L 3 (i + 1)) 4 (i + 1))) = none
  rw [e1, e2]; rfl
theorem point_two_s {s : Nat} (ha : isDigit a = true) (hb : isDigit b = true) (hc : isDigit c = true) (hd : isDigit d = true) (hs : s = 45 ∨ s = 47) (h : ∀ i L, kMon (rest0.mt fin) r i L = none) : iso.mt fin (a :: b :: c :: d :: s :: r) 0 [] = none := by
  rw [iso_eq]
  show (Re.rep .digit 4 4).mt _ _ 0 [some 0] = _
  rw [rep4_yes (show Cls.digit.has a = true from ha) (show Cls.digit.has b = true from hb) (show Cls.digit.has c = true from hc) (show Cls.digit.has d = true from hd)]
  show (Re.rep (.two 45 47) 0 1).mt _ (s :: r) (0 + 4) [some 0, some 4] = _
  rw [rep01_yes (by rcases hs with rfl | rfl <;> rfl)]
  have e2 : ∀ i L, kMon (rest0.mt fin) (s :: r) i L = none := fun i L => chr_no (c := .digit) (by rcases hs with rfl | rfl <;> rfl)
  show (kMon (rest0.mt fin) r 5 [some 0, some 4, some 5]).or (kMon (rest0.mt fin) (s :: r) 4 [some 0, some 4, some 4]) = none
  rw [h, e2]; rfl
theorem point_two_n {s : Nat} (ha : isDigit a = true) (hb : isDigit b = true) (hc : isDigit c = true) (hd : isDigit d = true) (hs : isDigit s = true) (h : ∀ i L, kMon (rest0.mt fin) (s :: r) i L = none) : iso.mt fin (a :: b :: c :: d :: s :: r) 0 [] = none := by
  rw [iso_eq]
  show (Re.rep .digit 4 4).mt _ _ 0 [some 0] = _
  rw [rep4_yes (show Cls.digit.has a = true from ha) (show Cls.digit.has b = true from hb) (show Cls.digit.has c = true from hc) (show Cls.digit.has d = true from hd)]
  show (Re.rep (.two 45 47) 0 1).mt _ (s :: r) (0 + 4) [some 0, some 4] = _
  rw [rep01_no (two_no hs)]
  exact h _ _
/-- the signs that the pattern takes -/
def allowed (x : Nat) : Bool := isDigit x || isSpace x || x == 45 || x == 47 || x == 58 || x == 84 || x == 116 || x == 46 || x == 43 || x == 90 || x == 122
/-- the pattern but for its last word -/
def isoP : Re := .seq (.mark 0) (.seq (.rep .digit 4 4) (.seq (.mark 1) (.seq (.rep (.two 45 47) 0 1) (.seq (.mark 2) (.seq dd (.seq (.mark 3) (.seq (.rep (.two 45 47) 0 1) (.seq (.mark 4) (.seq dd (.seq (.mark 5) (.seq (.opt clock) (.seq (.rep .space 0 4294967295) (.opt zone)))))))))))))
theorem iso_isoP (r : List Nat) (i : Nat) (L : Marks) : iso.mt fin r i L = isoP.mt (Re.at5.mt fin) r i L := rfl
theorem iso_takes : isoP.takes allowed := by
  have hd : ∀ x, Cls.digit.has x = true → allowed x = true := fun x h => by simp only [Cls.has] at h; simp [allowed, h]
  have hs : ∀ x, Cls.space.has x = true → allowed x = true := fun x h => by simp only [Cls.has] at h; simp [allowed, h]
  have ht : ∀ x, (Cls.two 45 47).has x = true → allowed x = true := fun x h => by simp only [Cls.has, Bool.or_eq_true, beq_iff_eq] at h; rcases h with rfl | rfl <;> decide
  have hu : ∀ x, (Cls.two 45 43).has x = true → allowed x = true := fun x h => by simp only [Cls.has, Bool.or_eq_true, beq_iff_eq] at h; rcases h with rfl | rfl <;> decide
  have hl : ∀ n, allowed n = true → ∀ x, (Cls.lit n).has x = true → allowed x = true := fun n hn x h => by simp only [Cls.has, beq_iff_eq] at h; rw [h]; exact hn
  have hp : ∀ x, Cls.sep.has x = true → allowed x = true := fun x h => by simp only [Cls.has, Bool.or_eq_true, beq_iff_eq] at h; rcases h with ((rfl | rfl) | rfl) | rfl <;> decide
  have h58 := hl 58 (by decide)
  exact ⟨trivial, hd, trivial, ht, trivial, ⟨hd, hd⟩, trivial, ht, trivial, ⟨hd, hd⟩, trivial, ⟨⟨hs, hp, trivial⟩, trivial, ⟨hd, hd⟩, trivial, h58, trivial, ⟨hd, hd⟩, trivial, h58, trivial, ⟨hd, hd⟩, ⟨hl 46 (by decide), hd⟩, trivial⟩, hs, ⟨trivial, ⟨⟨hu, ⟨hd, hd⟩, h58, trivial, h58, ⟨hd, hd⟩, trivial⟩, hl 90 (by decide), hl 122 (by decide), trivial⟩, trivial, hs⟩⟩
/-- a text with a sign that the pattern never takes is none -/
theorem iso_x {t : List Nat} (h : t.all allowed = false) : iso.mt fin t 0 [] = none := by
  cases e : iso.mt fin t 0 [] with
  | none => rfl
  | some z =>
    exfalso
    rw [iso_isoP] at e
    obtain ⟨u, r', i', L', h1, h2, h3⟩ := mt_sound isoP iso_takes (Re.at5.mt fin) t 0 [] e
    simp only [Re.mt] at h3
    split at h3
    · rename_i hr
      rw [h1] at h
      rcases hr with rfl | rfl <;> simp [h2] at h
      · exact absurd h (by decide)
    · cases h3
end
end Mine.Rx
end
section
set_option maxRecDepth 100000
namespace Mine
open PySem PySem.W PySem.Builtin._datetime PySem.Builtin.Time
/-- the days of a year y of the four hundred (r: the year itself), of its first months (m) for the year itself -/
def yearDays (r m y : Int) : Int :=
  if y < r then (if y.fmod 4 = 0 ∧ (y.fmod 100 ≠ 0 ∨ y = 0) then 366 else 365)
  else (([31, if y.fmod 4 = 0 ∧ (y.fmod 100 ≠ 0 ∨ y = 0) then 29 else 28, 31, 30, 31, 30, 31, 31, 30, 31, 30, 31] : List Int).take (m - 1).toNat).sum
def daysOf (n m : Int) (ys : List Int) : Int := 146097 * n.fdiv 400 + (ys.map (yearDays (n.fmod 400) m)).sum
def daysV (n m : Int) : Int := daysOf n m (rangeKs 0 (n.fmod 400 + 1 - 0).toNat)
/-- the days of a year ahead of the year itself -/
def yd (k : Int) : Int := if k.fmod 4 = 0 ∧ (k.fmod 100 ≠ 0 ∨ k = 0) then 366 else 365
def yF (k : Int) : Int := 365 * k + (k + 3) / 4 - (k + 99) / 100 + (if 0 < k then 1 else 0)
theorem yF_step : ∀ k : Fin 400, yF (k.val : Int) + yd (k.val : Int) = yF ((k.val : Int) + 1) := by decide +kernel
theorem whole_years (r m : Int) (k : Nat) (h : (k : Int) ≤ r) (hk : k ≤ 400) : ((rangeKs 0 k).map (yearDays r m)).sum = yF k := by
  induction k with
  | zero => rfl
  | succ k ih =>
    have hr : (k : Int) < r := h
    have e : rangeKs 0 (k + 1) = rangeKs 0 k ++ [(k : Int)] := by simp [rangeKs, List.range_succ]
    rw [e, List.map_append, List.sum_append, ih (Int.le_of_lt hr) (Nat.le_of_succ_le hk), List.map_cons, List.map_nil, List.sum_cons, List.sum_nil, Int.add_zero, yearDays, if_pos hr]
    exact yF_step ⟨k, hk⟩
theorem yF_ord : ∀ r : Fin 400, yF (r.val : Int) = ((r.val : Int) - 1) * 365 + ((r.val : Int) - 1) / 4 - ((r.val : Int) - 1) / 100 + ((r.val : Int) - 1) / 400 + 366 := by decide +kernel
theorem month_tab : ∀ (lp : Bool) (m : Fin 13), 1 ≤ m.val → (([31, if lp = true then 29 else 28, 31, 30, 31, 30, 31, 31, 30, 31, 30, 31] : List Int).take ((m.val : Int) - 1).toNat).sum = timeDaysBefore lp (m.val : Int) := by decide +kernel
theorem daysV_eq {n m : Int} (hn : 1 ≤ n) (h1 : 1 ≤ m) (h2 : m ≤ 12) : daysV n m = toOrdinal n m 1 + 365 := by
  have h400 : n.fmod 400 = n % 400 := Int.fmod_eq_emod_of_nonneg _ (by decide)
  have hq : n = n % 400 + n.fdiv 400 * 400 := by rw [Int.fdiv_eq_ediv_of_nonneg _ (by decide)]; exact (Int.emod_add_ediv_mul n 400).symm
  have b0 := Int.emod_nonneg n (b := 400) (by decide)
  have b1 := Int.emod_lt_of_pos n (b := 400) (by decide)
  have l4 := Int.emod_emod_of_dvd n (show (4 : Int) ∣ 400 by decide)
  have l100 := Int.emod_emod_of_dvd n (show (100 : Int) ∣ 400 by decide)
  generalize n.fdiv 400 = q at hq
  have hd : daysV n m = 146097 * n.fdiv 400 + ((rangeKs 0 (n % 400 + 1 - 0).toNat).map (yearDays (n % 400) m)).sum := by
    unfold daysV daysOf
    rw [h400]
  rw [hd]
  have hq2 : n.fdiv 400 = q := by
    rw [Int.fdiv_eq_ediv_of_nonneg _ (by decide), hq, Int.add_mul_ediv_right _ _ (by decide), Int.ediv_eq_zero_of_lt b0 b1, Int.zero_add]
  rw [hq2]
  have hl : timeIsLeap n = decide ((n % 400) % 4 = 0 ∧ ((n % 400) % 100 ≠ 0 ∨ n % 400 = 0)) := by
    unfold timeIsLeap
    rw [l4, l100, Bool.eq_iff_iff]
    simp only [Bool.and_eq_true, Bool.or_eq_true, beq_iff_eq, bne_iff_ne, decide_eq_true_eq]
  clear hd l4 l100
  obtain ⟨r, hr⟩ : ∃ r : Nat, n % 400 = (r : Int) := ⟨(n % 400).toNat, (Int.toNat_of_nonneg b0).symm⟩
  rw [hr] at b1 hl hq ⊢
  have hr4 : r < 400 := Int.ofNat_lt.mp b1
  have e : rangeKs 0 (r + 1) = rangeKs 0 r ++ [(r : Int)] := by simp [rangeKs, List.range_succ]
  have hy : yearDays r m r = (([31, if (r : Int) % 4 = 0 ∧ ((r : Int) % 100 ≠ 0 ∨ (r : Int) = 0) then 29 else 28, 31, 30, 31, 30, 31, 31, 30, 31, 30, 31] : List Int).take (m - 1).toNat).sum := by
    unfold yearDays
    rw [if_neg (Int.lt_irrefl _), Int.fmod_eq_emod_of_nonneg _ (by decide), Int.fmod_eq_emod_of_nonneg _ (by decide)]
  have hyt : yearDays r m r = timeDaysBefore (timeIsLeap n) m := by
    have hm : (m.toNat : Int) = m := Int.toNat_of_nonneg (Int.le_trans (by decide) h1)
    have h := month_tab (decide ((r : Int) % 4 = 0 ∧ ((r : Int) % 100 ≠ 0 ∨ (r : Int) = 0))) ⟨m.toNat, by lia⟩ (by show 1 ≤ m.toNat; lia)
    simp only [decide_eq_true_eq, hm] at h
    rw [hy, hl, h]
  rw [show ((r : Int) + 1 - 0).toNat = r + 1 from rfl, e, List.map_append, List.sum_append, whole_years r m r (Int.le_refl _) (Nat.le_of_lt hr4), List.map_cons, List.map_nil, List.sum_cons, List.sum_nil, Int.add_zero, hyt, yF_ord ⟨r, hr4⟩]
  unfold toOrdinal
  dsimp only
  have hp : n - 1 = ((r : Int) - 1) + q * 400 := by rw [hq]; lia
  rw [hp, Int.add_mul_ediv_right _ q (by decide : (400 : Int) ≠ 0), show ((r : Int) - 1) + q * 400 = ((r : Int) - 1) + (q * 100) * 4 by lia, Int.add_mul_ediv_right _ _ (by decide : (4 : Int) ≠ 0), show ((r : Int) - 1) + (q * 100) * 4 = ((r : Int) - 1) + (q * 4) * 100 by lia, Int.add_mul_ediv_right _ _ (by decide : (100 : Int) ≠ 0)]
  clear hyt hy hl e hp hq
  generalize timeDaysBefore (timeIsLeap n) m = t
  generalize ((r : Int) - 1) / 4 = A
  generalize ((r : Int) - 1) / 100 = B
  generalize ((r : Int) - 1) / 400 = C
  lia
end Mine
end
section
set_option maxRecDepth 100000
namespace Mine
open PySem PySem.W PyProof.Rows PySem.Calls PySem.Spec PySem.Sre
/-- the words of the pattern at a -/
def Rx.codeAt (K : Frag) (a : Addr) : Array Nat := match K.lookup a with
  | some ⟨_, _, .fields vs, _⟩ => (match vs.getD 5 .none with
    | .ref t => (match K.lookup t with
      | some ⟨_, _, .seq xs _, _⟩ => (xs.map Builtin.Re.reRawOf).map (·.toNat)
      | _ => #[])
    | _ => #[])
  | _ => #[]
/-- a pattern of g groups over texts stands at a -/
def patOk (K : Frag) (a : Addr) (g : Nat) : Bool := match K.lookup a with
  | some ⟨.type c, none, .fields vs, _⟩ => decide (c = "re.Pattern") && decide (Builtin.Re.reRawNat (vs.getD 2 .none) = g) && decide (Builtin.Re.reRawNat (vs.getD 6 .none) = 0) && (match vs.getD 5 .none with
    | .ref t => (match K.lookup t with
      | some ⟨_, _, .seq _ _, _⟩ => true
      | _ => false)
    | _ => false)
  | _ => false
theorem patOk_spec {K : Frag} {a : Addr} {g : Nat} (h : patOk K a g = true) : ∃ vs sl t c d xs k sl2, K.lookup a = some ⟨.type "re.Pattern", none, .fields vs, sl⟩ ∧ K.lookup t = some ⟨c, d, .seq xs k, sl2⟩ ∧
    vs.getD 5 .none = .ref t ∧ Builtin.Re.reRawNat (vs.getD 2 .none) = g ∧ Builtin.Re.reRawNat (vs.getD 6 .none) = 0 ∧ Rx.codeAt K a = (xs.map Builtin.Re.reRawOf).map (·.toNat) := by
  unfold patOk at h
  split at h
  · rename_i c vs sl ho
    simp only [Bool.and_eq_true, decide_eq_true_eq] at h
    obtain ⟨⟨⟨h1, h2⟩, h3⟩, h4⟩ := h
    split at h4
    · rename_i t ht
      split at h4
      · rename_i c2 d2 xs k sl2 ho2
        subst h1
        refine ⟨vs, sl, t, c2, d2, xs, k, sl2, ho, ho2, ht, h2, h3, ?_⟩
        unfold Rx.codeAt
        rw [ho]
        simp only [ht, ho2]
      · cases h4
    · cases h4
  · cases h
/-- where group j stands in a text, by the marks -/
def gpos (L : Rx.Marks) (j : Nat) : Option (Nat × Nat) := match L[2 * j]?, L[2 * j + 1]? with
  | some (some b), some (some e) => some (b, e)
  | _, _ => none
def spansOf (g : Nat) (L : Rx.Marks) : List Value := (List.range g).flatMap fun j => match gpos L j with
  | some (b, e) => [rawInt b, rawInt e]
  | none => [rawInt (-1), rawInt (-1)]
def sane (g : Nat) (L : Rx.Marks) : Bool := (List.range g).all fun j => match gpos L j with
  | some (b, e) => decide (b ≤ e)
  | none => true
abbrev tupO (g : Nat) (L : Rx.Marks) (st en : Int) : Obj := { cls := .type "tuple", data := .seq (rawInt st :: rawInt en :: spansOf g L).toArray }
abbrev matO (a : Addr) (x : Str) (t : Tok) (lim : Nat) (li : Int) (D : Addr) : Obj := { cls := .type "re.Match", data := .fields [.str x t, .ref a, rawInt 0, rawInt lim, rawInt li, .ref D].toArray }
theorem gpos_marks {g : Nat} {m : M} {L : Rx.Marks} (hm : Rx.MarksAre (2 * g) m L) {j : Nat} (hj : j < g) :
    (if ((2 * j + 1 : Nat) : Int) ≤ m.lastmark then (m.marks.getD (2 * j) none, m.marks.getD (2 * j + 1) none) else (none, none)) = (match gpos L j with | some (b, e) => (some b, some e) | none => (none, none)) ∨
    gpos L j = none ∧ ∀ b e, (if ((2 * j + 1 : Nat) : Int) ≤ m.lastmark then (m.marks.getD (2 * j) none, m.marks.getD (2 * j + 1) none) else (none, none)) ≠ (some b, some e) := by
  obtain ⟨h1, h2, h3, h4⟩ := hm
  by_cases hl : ((2 * j + 1 : Nat) : Int) ≤ m.lastmark
  · rw [if_pos hl]
    have ha : 2 * j < L.length := by lia
    have hb : 2 * j + 1 < L.length := by lia
    have ea : m.marks.getD (2 * j) none = L[2 * j] := by
      have := h4 _ ha
      rw [List.getElem?_eq_getElem ha] at this
      rw [Array.getD_eq_getD_getElem?, this]; rfl
    have eb : m.marks.getD (2 * j + 1) none = L[2 * j + 1] := by
      have := h4 _ hb
      rw [List.getElem?_eq_getElem hb] at this
      rw [Array.getD_eq_getD_getElem?, this]; rfl
    rw [ea, eb]
    unfold gpos
    rw [List.getElem?_eq_getElem ha, List.getElem?_eq_getElem hb]
    cases L[2 * j] with
    | none => exact .inr ⟨rfl, fun b e h => by cases h⟩
    | some b =>
      cases L[2 * j + 1] with
      | none => exact .inr ⟨rfl, fun b e h => by cases h⟩
      | some e => exact .inl rfl
  · rw [if_neg hl]
    have hb : L[2 * j + 1]? = none := List.getElem?_eq_none (by lia)
    have e : gpos L j = none := by
      unfold gpos
      rw [hb]
      cases L[2 * j]? with
      | none => rfl
      | some z => cases z <;> rfl
    rw [e]
    exact .inl rfl
theorem spans_eq {g : Nat} {m : M} {L : Rx.Marks} (hm : Rx.MarksAre (2 * g) m L) : ((List.range g).flatMap fun j =>
    match if ((2 * j + 1 : Nat) : Int) ≤ m.lastmark then (m.marks.getD (2 * j) none, m.marks.getD (2 * j + 1) none) else (none, none) with
    | (some b, some e) => [rawInt b, rawInt e]
    | _ => [rawInt (-1), rawInt (-1)]) = spansOf g L := by
  unfold spansOf
  rw [List.flatMap_def, List.flatMap_def]
  congr 1
  refine List.map_congr_left fun j hj => ?_
  rcases gpos_marks hm (List.mem_range.mp hj) with h | ⟨h1, h2⟩
  · rw [h]
    cases gpos L j with
    | none => rfl
    | some z => rfl
  · rw [h1]
    split
    · rename_i b e h
      exact absurd h (h2 b e)
    · rfl
theorem sane_eq {g : Nat} {m : M} {L : Rx.Marks} (hm : Rx.MarksAre (2 * g) m L) (hs : sane g L = true) :
    ((List.range g).any (fun g => match m.marks.getD (2 * g) none, m.marks.getD (2 * g + 1) none with | some b, some e => ((2 * g + 1 : Nat) : Int) ≤ m.lastmark && e < b | _, _ => false)) = false := by
  rw [List.any_eq_false]
  intro j hj
  have hs := List.all_eq_true.mp hs j hj
  rcases gpos_marks hm (List.mem_range.mp hj) with h | ⟨h1, h2⟩
  · by_cases hl : ((2 * j + 1 : Nat) : Int) ≤ m.lastmark
    · rw [if_pos hl] at h
      cases e : gpos L j with
      | none =>
        rw [e] at h
        obtain ⟨ha, hb⟩ := Prod.mk.inj h
        rw [ha]
        simp
      | some z =>
        rw [e] at h hs
        obtain ⟨ha, hb⟩ := Prod.mk.inj h
        rw [ha, hb]
        simp at hs ⊢
        lia
    · split <;> simp <;> lia
  · by_cases hl : ((2 * j + 1 : Nat) : Int) ≤ m.lastmark
    · split
      · rename_i b e hb he
        exact absurd (by rw [if_pos hl, hb, he]) (h2 b e)
      · simp
    · split <;> simp <;> lia
theorem len_spans (g : Nat) (L : Rx.Marks) : (spansOf g L).length = 2 * g := by
  unfold spansOf
  induction g with
  | zero => rfl
  | succ n ih =>
    rw [List.range_succ, List.flatMap_append, List.length_append, ih]
    simp only [List.flatMap_cons, List.flatMap_nil, List.append_nil]
    cases gpos L n with
    | none => rfl
    | some z => rfl
section
variable {prog : Program} {w : World} {A : Around} {E : Value → Shared → Prop} {s : Shared} {h₀ : Heap} {Lo : Addr} {m : Str → Option Value} {news : List (Addr × Obj)} {Q : Value → Shared → Prop}
theorem named_one (id f : String) (v : Value) : Builtin.Re.reNamed id f ["string", "pos", "endpos"] 1 [v] [] = (pure [some v, none, none] : Sem _) := by rfl
theorem named_none (id f : String) : Builtin.Re.reNamed id f ["default"] 0 [] [] = (pure [none] : Sem _) := by rfl
theorem wp_new {T : String} {d : Data} {Q : Value → Shared → Prop} (F : Fr h₀ Lo s.heap m) (N : News h₀ Lo s.heap news)
    (h : ∀ D h', Fr h₀ Lo h' m → News h₀ Lo h' ((D, ({ cls := .type T, data := d } : Obj)) :: news) → (∀ p ∈ news, p.1 < D) → Q (.ref D) { s with heap := h' }) (hd : sizeOk d) (hf : ({ cls := .type T, data := d } : Obj).isFreed = false) : wpAny (model prog w) A (newObj (.type T) d) Q E s :=
  wpAny_newObj_type (h _ _ (F.push _) (N.push F _ hf) fun p hp => Heap.lt_size (N p hp).1) hd
theorem wp_reNewMatch {P : Addr} {x : Str} {t : Tok} {g lim : Nat} {mm : M} {L : Rx.Marks} (hm : Rx.MarksAre (2 * g) mm L) (hs : sane g L = true) (hg : g ≤ 100) (F : Fr h₀ Lo s.heap m) (N : News h₀ Lo s.heap news)
    (h : ∀ D1 D2 h' st en li, Fr h₀ Lo h' m → News h₀ Lo h' ((D2, matO P x t lim li D1) :: (D1, tupO g L st en) :: news) → (∀ p ∈ news, p.1 < D1) → D1 < D2 → (∀ p ∈ news, p.1 < D2) → Q (.ref D2) { s with heap := h' }) :
    wpAny (model prog w) A (Builtin.Re.reNewMatch (.ref P) (.str x t) g 0 lim mm) Q E s := by
  unfold Builtin.Re.reNewMatch
  dsimp only
  have hl := len_spans g L
  refine wpAny_ite_false (decide_eq_false fun h => absurd ((sane_eq hm hs).symm.trans h) Bool.false_ne_true) ?_
  refine wpAny_bind ?_
  refine Eq.mpr (congrArg (fun l => wpAny _ _ (newTuple (rawInt mm.start :: rawInt mm.handed :: l)) _ _ _) (spans_eq hm)) ?_
  refine kup_newTuple F N (fun D1 h1 F1 N1 l1 => ?_) ?_
  · refine wp_new (s := { s with heap := h1 }) F1 N1 (fun D2 h2 F2 N2 l2 => ?_) (by show _ ≤ _; simp [sizeLine_eq]) rfl
    exact h D1 D2 h2 _ _ _ F2 N2 l1 (l2 _ (List.mem_cons_self ..)) (fun p hp => l2 p (List.mem_cons_of_mem _ hp))
  · simp [sizeLine_eq, hl]; lia
theorem codeS {K : Frag} {a : Addr} {g : Nat} {x : Str} {t : Tok} {R : Option Rx.Marks} (ok : patOk K a g = true) (hK : K.In s.heap) (he : Rx.Ends (2 * g) (Sre.forSearch (Rx.codeAt K a) x.cps g 0 x.cps.size false) R) (hg : g ≤ 100) (hx : x.cps.size ≤ 100) (F : Fr h₀ Lo s.heap m) (N : News h₀ Lo s.heap news)
    (hno : R = none → Q .none s)
    (hyes : ∀ L, R = some L → sane g L = true ∧ ∀ D1 D2 h' st en li, Fr h₀ Lo h' m → News h₀ Lo h' ((D2, matO a x t x.cps.size li D1) :: (D1, tupO g L st en) :: news) → (∀ p ∈ news, p.1 < D1) → D1 < D2 → (∀ p ∈ news, p.1 < D2) → Q (.ref D2) { s with heap := h' }) :
    wpAny (model prog w) A (Builtin.«re.Pattern.search» ⟨[.ref a, .str x t], []⟩) (fun fin s' => ∃ v, fin = .done (.ret v) ∧ Q v s') E s := by
  obtain ⟨vs, sl, tt, c, d, xs, k, sl2, o1, o2, e5, e2, e6, ec⟩ := patOk_spec ok
  unfold Builtin.«re.Pattern.search» Builtin.Re.reTarget
  refine wpAny_bind ?_
  dsimp only
  rw [named_one]
  refine wpAny_bind (wpAny_pure ?_)
  dsimp only
  refine wpAny_bind (wpAny_pure (wpAny_bind (wpAny_pure ?_)))
  refine wpAny_bind (wpAny_fieldsOf (hK _ _ o1) rfl ?_)
  refine wpAny_bind (m := Builtin.Re.reTextOf (.str x t)) (wpAny_pure ?_)
  rw [e6]
  dsimp only
  refine wpAny_bind (wpAny_pure ?_)
  rw [e5]
  refine wpAny_bind ?_
  refine wpAny_bind (m := seqItems? (.ref tt)) ?_
  refine wpAny_bind (wpAny_load (hK _ _ o2) ?_)
  refine wpAny_pure (wpAny_pure (wpAny_pure ?_))
  dsimp only [Option.getD_some]
  rw [← ec, e2]
  have hmin : min (2 ^ 63 - 1 : Int).toNat x.cps.size = x.cps.size := Nat.min_eq_right (Nat.le_trans hx (by decide))
  rw [hmin, show min (Int.toNat 0) x.cps.size = 0 from Nat.zero_min _]
  unfold Builtin.Re.reAnswer
  refine wpAny_bind ?_
  cases R with
  | none =>
    obtain ⟨n, hn, ho⟩ := he
    refine Rx.wp_run hn (.inr ⟨ho, ?_⟩)
    exact wpAny_pure ⟨_, rfl, hno rfl⟩
  | some L =>
    obtain ⟨n, hn, ho, hm⟩ := he
    refine Rx.wp_run hn (.inl ⟨ho, ?_⟩)
    obtain ⟨h1, h2⟩ := hyes L rfl
    refine wpAny_bind (wp_reNewMatch hm h1 hg F N fun D1 D2 h' st en li F' N' l1 l2 l3 => ?_)
    exact wpAny_pure ⟨_, rfl, h2 _ _ _ _ _ _ F' N' l1 l2 l3⟩
/-- what group j of a text hands back: its signs -/
def gtext (x : Str) (L : Rx.Marks) (j : Nat) : Option Str := (gpos L j).map fun p => ⟨x.cps.extract p.1 p.2⟩
/-- as a value -/
def gval (o : Option Str) (t : Tok) : Value := match o with
  | none => .none
  | some y => .str y t
theorem spans_at {L : Rx.Marks} {st en : Int} : ∀ (g j : Nat), j < g → (((rawInt st :: rawInt en :: spansOf g L).toArray).map Builtin.Re.reRawOf).getD (2 * (j + 1)) (-1) = (match gpos L j with | some (b, _) => (b : Int) | none => -1) ∧
    (((rawInt st :: rawInt en :: spansOf g L).toArray).map Builtin.Re.reRawOf).getD (2 * (j + 1) + 1) (-1) = (match gpos L j with | some (_, e) => (e : Int) | none => -1) := by
  intro g j hj
  have key : ∀ g j, j < g → (spansOf g L)[2 * j]? = some (match gpos L j with | some (b, _) => rawInt b | none => rawInt (-1)) ∧ (spansOf g L)[2 * j + 1]? = some (match gpos L j with | some (_, e) => rawInt e | none => rawInt (-1)) := by
    intro g
    induction g with
    | zero => intro j h; lia
    | succ n ih =>
      intro j hj
      have e : spansOf (n + 1) L = spansOf n L ++ (match gpos L n with | some (b, e) => [rawInt b, rawInt e] | none => [rawInt (-1), rawInt (-1)]) := by
        unfold spansOf
        rw [List.range_succ, List.flatMap_append, List.flatMap_cons, List.flatMap_nil, List.append_nil]
      rw [e]
      have hl := len_spans n L
      rcases Nat.lt_or_ge j n with h | h
      · rw [List.getElem?_append_left (by lia), List.getElem?_append_left (by lia)]
        exact ih j h
      · have : j = n := by lia
        subst this
        rw [List.getElem?_append_right (by lia), List.getElem?_append_right (by lia), hl, Nat.sub_self, show 2 * j + 1 - 2 * j = 1 by lia]
        cases gpos L j with
        | none => exact ⟨rfl, rfl⟩
        | some z => exact ⟨rfl, rfl⟩
  obtain ⟨k1, k2⟩ := key g j hj
  constructor
  · rw [Array.getD_eq_getD_getElem?]
    simp only [Array.getElem?_map, List.getElem?_toArray]
    rw [show 2 * (j + 1) = 2 * j + 1 + 1 by lia, List.getElem?_cons_succ, List.getElem?_cons_succ, k1]
    cases gpos L j with
    | none => rfl
    | some z => rfl
  · rw [Array.getD_eq_getD_getElem?]
    simp only [Array.getElem?_map, List.getElem?_toArray]
    rw [show 2 * (j + 1) + 1 = 2 * j + 1 + 1 + 1 by lia, List.getElem?_cons_succ, List.getElem?_cons_succ, k2]
    cases gpos L j with
    | none => rfl
    | some z => rfl
theorem wp_groupText {fs : Array Value} {x : Str} {t : Tok} {L : Rx.Marks} {g j : Nat} {st en : Int} (h0 : fs.getD 0 .none = .str x t) (hj : j < g) (hx : x.cps.size ≤ 100)
    (h : ∀ tk tv, Q (gval (gtext x L j) tv) { s with toks := tk }) :
    wpAny (model prog w) A (Builtin.Re.reGroupText ⟨fs, ((rawInt st :: rawInt en :: spansOf g L).toArray).map Builtin.Re.reRawOf⟩ (j + 1) .none) Q E s := by
  unfold Builtin.Re.reGroupText
  obtain ⟨a, b⟩ := spans_at (st := st) (en := en) (L := L) g j hj
  dsimp only
  rw [a, b, h0]
  unfold gtext at h
  cases e : gpos L j with
  | none =>
    dsimp only
    refine wpAny_ite_true (by decide) ?_
    rw [e] at h
    exact wpAny_pure (h s.toks 0)
  | some z =>
    obtain ⟨b, c⟩ := z
    rw [e] at h
    dsimp only
    refine wpAny_ite_false (by simp) ?_
    refine wpAny_bind (m := Builtin.Re.reTextOf (.str x t)) (wpAny_pure ?_)
    dsimp only
    unfold Builtin.Re.reSlice
    refine wpAny_ite_true (by decide) ?_
    refine wpAny_mkStr (h (s.toks + 1) s.toks) ?_
    show (x.cps.extract _ _).size ≤ _
    rw [Array.size_extract, sizeLine_eq]
    exact Nat.le_trans (Nat.sub_le _ _) (Nat.le_trans (Nat.min_le_right _ _) (Nat.le_trans hx (by decide)))
theorem wp_groupTexts {fs : Array Value} {x : Str} {t : Tok} {L : Rx.Marks} {g : Nat} {st en : Int} (h0 : fs.getD 0 .none = .str x t) (hx : x.cps.size ≤ 100) : ∀ (l : List Nat) (s : Shared) {Q : List Value → Shared → Prop}, (∀ j ∈ l, j < g) →
    (∀ tk (tv : Nat → Tok), Q (l.map fun j => gval (gtext x L j) (tv j)) { s with toks := tk }) → l.Nodup →
    wpAny (model prog w) A (l.mapM fun j => Builtin.Re.reGroupText ⟨fs, ((rawInt st :: rawInt en :: spansOf g L).toArray).map Builtin.Re.reRawOf⟩ (j + 1) .none) Q E s
  | [], s, _, _, h, _ => wpAny_pure (h s.toks fun _ => 0)
  | j :: l, s, Q, hl, h, hn => by
    rw [List.mapM_cons]
    refine wpAny_bind (wp_groupText h0 (hl j (List.mem_cons_self ..)) hx fun tk tv => ?_)
    refine wpAny_bind (wp_groupTexts h0 hx l _ (fun i hi => hl i (List.mem_cons_of_mem _ hi)) (fun tk2 tv2 => ?_) (List.nodup_cons.mp hn).2)
    refine wpAny_pure ?_
    have := h tk2 (fun i => if i = j then tv else tv2 i)
    rw [List.map_cons] at this
    simp only [if_true] at this
    have e : (l.map fun i => gval (gtext x L i) (if i = j then tv else tv2 i)) = l.map fun i => gval (gtext x L i) (tv2 i) := List.map_congr_left fun i hi => by
      rw [if_neg (fun (e : i = j) => (List.nodup_cons.mp hn).1 (e ▸ hi))]
    rw [e] at this
    exact this
theorem codeG {P D1 D2 : Addr} {g : Nat} {x : Str} {t : Tok} {lim : Nat} {st en li : Int} {L : Rx.Marks} (hg : g ≤ 100) (hx : x.cps.size ≤ 100) (F : Fr h₀ Lo s.heap m) (N : News h₀ Lo s.heap news) (hm : (D2, matO P x t lim li D1) ∈ news) (ht : (D1, tupO g L st en) ∈ news)
    (h : ∀ D h' tk (tv : Nat → Tok), Fr h₀ Lo h' m → News h₀ Lo h' ((D, ({ cls := .type "tuple", data := .seq ((List.range g).map fun j => gval (gtext x L j) (tv j)).toArray } : Obj)) :: news) → (∀ p ∈ news, p.1 < D) → Q (.ref D) { s with heap := h', toks := tk }) :
    wpAny (model prog w) A (Builtin.«re.Match.groups» ⟨[.ref D2], []⟩) (fun fin s' => ∃ v, fin = .done (.ret v) ∧ Q v s') E s := by
  unfold Builtin.«re.Match.groups» Builtin.Re.reWithDefault
  dsimp only
  rw [named_none]
  refine wpAny_bind (wpAny_bind (wpAny_pure ?_))
  dsimp only
  unfold Builtin.Re.reFound
  refine wpAny_bind (wpAny_bind (wpAny_fieldsOf (N _ hm).1 rfl ?_))
  refine wpAny_bind (wpAny_bind (m := seqItems? (.ref D1)) ?_)
  refine wpAny_bind (wpAny_load (N _ ht).1 ?_)
  refine wpAny_pure (wpAny_pure (wpAny_pure (wpAny_pure ?_)))
  dsimp only [Option.getD_some]
  have hl := len_spans g L
  have hsz : (((rawInt st :: rawInt en :: spansOf g L).toArray).map Builtin.Re.reRawOf).size / 2 - 1 = g := by
    simp [hl]; lia
  rw [hsz]
  refine wpAny_bind (wp_groupTexts (by rfl) hx (List.range g) s (fun j hj => List.mem_range.mp hj) (fun tk tv => ?_) List.nodup_range)
  refine wpAny_bind (kup_newTuple (s := { s with toks := tk }) F N (fun D h' F' N' l1 => ?_) (by simp [sizeLine_eq]; lia))
  exact wpAny_pure ⟨_, rfl, h D h' tk tv F' N' l1⟩
theorem codeK {P D1 D2 : Addr} {g j : Nat} {x : Str} {t u : Tok} {lim : Nat} {st en li : Int} {L : Rx.Marks} (hj : j < g) (hg : g ≤ 100) (hx : x.cps.size ≤ 100) (N : News h₀ Lo s.heap news) (hm : (D2, matO P x t lim li D1) ∈ news) (ht : (D1, tupO g L st en) ∈ news)
    (h : ∀ tk tv, Q (gval (gtext x L j) tv) { s with toks := tk }) :
    wpAny (model prog w) A (Builtin.«re.Match.group» ⟨[.ref D2, .int ((j + 1 : Nat) : Int) u], []⟩) (fun fin s' => ∃ v, fin = .done (.ret v) ∧ Q v s') E s := by
  unfold Builtin.«re.Match.group»
  refine wpAny_bind (wpAny_pure ?_)
  dsimp only
  unfold Builtin.Re.reFound
  refine wpAny_bind (wpAny_bind (wpAny_fieldsOf (N _ hm).1 rfl ?_))
  refine wpAny_bind (wpAny_bind (m := seqItems? (.ref D1)) ?_)
  refine wpAny_bind (wpAny_load (N _ ht).1 ?_)
  refine wpAny_pure (wpAny_pure (wpAny_pure ?_))
  dsimp only [Option.getD_some]
  have hl := len_spans g L
  unfold Builtin.Re.reGroupNumber
  refine wpAny_bind (wpAny_bind (m := asInt? _) (wpAny_pure ?_))
  refine wpAny_ite_true (by rfl) ?_
  refine wpAny_bind (m := asIndex _) (wpAny_pure ?_)
  refine wpAny_ite_false (by simp [hl]; lia) (wpAny_pure ?_)
  rw [Int.toNat_natCast]
  refine wpAny_bind (wp_groupText (st := st) (en := en) (by rfl) hj hx fun tk tv => ?_)
  exact wpAny_pure ⟨_, rfl, h tk tv⟩
end
end Mine
end
section
set_option maxRecDepth 100000
namespace Mine.Rx
open PySem PySem.W PySem.Sre
def tzR : Re := .seq (.opt (.seq (.mark 0) (.seq (.chr (.two 45 43)) (.mark 1)))) (.seq (.mark 2) (.seq dd (.seq (.mark 3) (.seq (.rep (.lit 58) 0 1) (.seq (.opt (.seq (.mark 4) (.seq two2 (.mark 5)))) .at5)))))
theorem iso_chk (P : Params) : (Re.seq .at0 iso).chk (codeAt (mk.heap_1 P) 121) 5 = some 307 := by kernel_rfl
theorem iso_head (P : Params) : wordsAt (codeAt (mk.heap_1 P) 121) 0 [14, 4, 0, 6] = true := by kernel_rfl
theorem iso_end (P : Params) : wordsAt (codeAt (mk.heap_1 P) 121) 307 [1] = true := by kernel_rfl
theorem tz_chk (P : Params) : (Re.seq .at0 tzR).chk (codeAt (mk.heap_1 P) 88) 5 = some 70 := by kernel_rfl
theorem tz_end (P : Params) : wordsAt (codeAt (mk.heap_1 P) 88) 70 [1] = true := by kernel_rfl
theorem iso_ok : (Re.seq .at0 iso).ok 16 false 0 16 = true := by decide +kernel
theorem tz_ok : (Re.seq .at0 tzR).ok 6 false 0 16 = true := by decide +kernel
theorem iso_wt : 1 + (Re.seq .at0 iso).wt 16 ≤ 16777216 := by decide +kernel
theorem tz_wt : 1 + (Re.seq .at0 tzR).wt 6 ≤ 16777216 := by decide +kernel
theorem iso_tm : ∀ T : Fin 65, 2 * (Re.seq .at0 iso).tm T.val 1 + 2 * T.val + 10 ≤ 4 * 2 ^ 64 := by decide +kernel
theorem tz_tm : ∀ T : Fin 65, 2 * (Re.seq .at0 tzR).tm T.val 1 + 2 * T.val + 10 ≤ 4 * 2 ^ 64 := by decide +kernel
theorem iso_pat (P : Params) : patOk (mk.heap_1 P) 121 8 = true := by kernel_rfl
theorem tz_pat (P : Params) : patOk (mk.heap_1 P) 88 3 = true := by kernel_rfl
theorem tz_head (P : Params) : wordsAt (codeAt (mk.heap_1 P) 88) 0 [14, 4, 0, 1] = true := by kernel_rfl
theorem iso_ends (P : Params) {x : Array Nat} (hx : x.size ≤ 64) : Ends 16 (Sre.forSearch (codeAt (mk.heap_1 P) 121) x 8 0 x.size false) (found iso 6 x) :=
  search (groups := 8) (iso_head P) (by decide) (iso_chk P) (iso_end P) iso_ok iso_wt (iso_tm ⟨x.size, by lia⟩)
theorem tz_ends (P : Params) {x : Array Nat} (hx : x.size ≤ 64) : Ends 6 (Sre.forSearch (codeAt (mk.heap_1 P) 88) x 3 0 x.size false) (found tzR 1 x) :=
  search (groups := 3) (tz_head P) (by decide) (tz_chk P) (tz_end P) tz_ok tz_wt (tz_tm ⟨x.size, by lia⟩)
end Mine.Rx
end
section
set_option maxRecDepth 100000
namespace Mine
open PySem PySem.W PyProof.Rows PySem.Calls PySem.Spec
section
variable {M : Model} {A : Around} {E : Value → Shared → Prop} {s : Shared}
theorem getMethod_ref {a : Addr} {o : Obj} {T : String} {name : Str} {ga id : String} {pl : Sem Bool} {Q : Value × List Value → Shared → Prop} (ho : s.heap.get? a = some o) (hc : o.cls = .type T) (hd : o.dict = none)
    (hga : typeLookup (.type T) "__getattribute__" = pure (some (.builtin ga))) (hcan : (Manifest.canonical ga != "object.__getattribute__") = false)
    (hgetattr : typeLookup (.type T) "__getattr__" = pure none) (hf : typeLookup (.type T) name = pure (some (.builtin id)))
    (htf : typeOf (.builtin id) = pure (.type "method_descriptor")) (h : Q (.builtin id, [.ref a]) s) : wpAny M A (getMethod (.ref a) name pl) Q E s := by
  have hT : s.TypeIs (.ref a) T := ⟨o, ho, hc⟩
  unfold getMethod
  refine wpAny_bind (wpAny_specialOf hT hga ?_)
  show wpAny M A (if (Manifest.canonical ga != "object.__getattribute__") = true then _ else _) Q E s
  rw [hcan, if_neg Bool.false_ne_true]
  refine wpAny_bind (wpAny_specialOf hT hgetattr ?_)
  refine wpAny_bind (wpAny_specialOf hT hf ?_)
  refine wpAny_bind (wpAny_of_eq htf ?_)
  refine wpAny_bind (wpAny_load ho ?_)
  rw [hd]
  exact wpAny_bind (wpAny_rule (wpAny_pure h))
theorem pat_ga : typeLookup (.type "re.Pattern") "__getattribute__" = pure (some (.builtin "object.__getattribute__")) := by rw [typeLookup_type, builtinLookup_eq_fast]; kernel_rfl
theorem pat_gt : typeLookup (.type "re.Pattern") "__getattr__" = pure none := by rw [typeLookup_type, builtinLookup_eq_fast]; kernel_rfl
theorem pat_search : typeLookup (.type "re.Pattern") "search" = pure (some (.builtin "re.Pattern.search")) := by rw [typeLookup_type, builtinLookup_eq_fast]; kernel_rfl
theorem pat_search_type : typeOf (.builtin "re.Pattern.search") = pure (.type "method_descriptor") := by show builtinType _ = _; rw [builtinType_eq_fast]; kernel_rfl
theorem mat_ga : typeLookup (.type "re.Match") "__getattribute__" = pure (some (.builtin "object.__getattribute__")) := by rw [typeLookup_type, builtinLookup_eq_fast]; kernel_rfl
theorem mat_gt : typeLookup (.type "re.Match") "__getattr__" = pure none := by rw [typeLookup_type, builtinLookup_eq_fast]; kernel_rfl
theorem mat_groups : typeLookup (.type "re.Match") "groups" = pure (some (.builtin "re.Match.groups")) := by rw [typeLookup_type, builtinLookup_eq_fast]; kernel_rfl
theorem mat_group : typeLookup (.type "re.Match") "group" = pure (some (.builtin "re.Match.group")) := by rw [typeLookup_type, builtinLookup_eq_fast]; kernel_rfl
theorem mat_groups_type : typeOf (.builtin "re.Match.groups") = pure (.type "method_descriptor") := by show builtinType _ = _; rw [builtinType_eq_fast]; kernel_rfl
theorem mat_group_type : typeOf (.builtin "re.Match.group") = pure (.type "method_descriptor") := by show builtinType _ = _; rw [builtinType_eq_fast]; kernel_rfl
theorem date_ga : typeLookup (.type "datetime.date") "__getattribute__" = pure (some (.builtin "object.__getattribute__")) := by rw [typeLookup_type, builtinLookup_eq_fast]; kernel_rfl
theorem date_gt : typeLookup (.type "datetime.date") "__getattr__" = pure none := by rw [typeLookup_type, builtinLookup_eq_fast]; kernel_rfl
theorem date_ord : typeLookup (.type "datetime.date") "toordinal" = pure (some (.builtin "datetime.date.toordinal")) := by rw [typeLookup_type, builtinLookup_eq_fast]; kernel_rfl
theorem date_ord_type : typeOf (.builtin "datetime.date.toordinal") = pure (.type "method_descriptor") := by show builtinType _ = _; rw [builtinType_eq_fast]; kernel_rfl
theorem entry_search : entryFor table "re.Pattern.search" = some Builtin.«re.Pattern.search» := entryFor_of_tree (by kernel_rfl)
theorem entry_groups : entryFor table "re.Match.groups" = some Builtin.«re.Match.groups» := entryFor_of_tree (by kernel_rfl)
theorem entry_group : entryFor table "re.Match.group" = some Builtin.«re.Match.group» := entryFor_of_tree (by kernel_rfl)
theorem entry_ord : entryFor table "datetime.date.toordinal" = some Builtin.«datetime.date.toordinal» := entryFor_of_tree (by kernel_rfl)
theorem entry_datenew : entryFor table "datetime.date.__new__" = some Builtin.«datetime.date.__new__» := entryFor_of_tree (by kernel_rfl)
end
end Mine
end
section
set_option maxRecDepth 100000
set_option maxHeartbeats 4000000
namespace Mine
open PySem PySem.W PyProof.Rows PySem.Calls PySem.Spec
theorem slot_search : Slot "re.Pattern" "search" "re.Pattern.search" := .of (owner := "re.Pattern") (n := "search") pat_search (by decide +kernel) (by decide +kernel) (by decide +kernel) (.inr (by decide +kernel)) (by rw [isSubtype_type]; kernel_rfl)
theorem slot_groups : Slot "re.Match" "groups" "re.Match.groups" := .of (owner := "re.Match") (n := "groups") mat_groups (by decide +kernel) (by decide +kernel) (by decide +kernel) (.inr (by decide +kernel)) (by rw [isSubtype_type]; kernel_rfl)
theorem slot_group : Slot "re.Match" "group" "re.Match.group" := .of (owner := "re.Match") (n := "group") mat_group (by decide +kernel) (by decide +kernel) (by decide +kernel) (.inr (by decide +kernel)) (by rw [isSubtype_type]; kernel_rfl)
theorem slot_ord : Slot "datetime.date" "toordinal" "datetime.date.toordinal" := .of (owner := "datetime.date") (n := "toordinal") date_ord (by decide +kernel) (by decide +kernel) (by decide +kernel) (.inr (by decide +kernel)) (by rw [isSubtype_type]; kernel_rfl)
theorem args_search (a b : Value) : argsOk "re.Pattern.search" ⟨[a, b], []⟩ := by unfold argsOk; kernel_rfl
theorem args_groups (a : Value) : argsOk "re.Match.groups" ⟨[a], []⟩ := by unfold argsOk; kernel_rfl
theorem args_group (a b : Value) : argsOk "re.Match.group" ⟨[a, b], []⟩ := by unfold argsOk; kernel_rfl
theorem args_ord (a : Value) : argsOk "datetime.date.toordinal" ⟨[a], []⟩ := by unfold argsOk; kernel_rfl
theorem mro_date' : mroOf (.type "datetime.date") = pure [.type "datetime.date", .type "object"] := by rw [mroOf_type]; kernel_rfl
theorem lookup_date_new : typeLookup (.type "datetime.date") "__new__" = pure (some (.builtin "datetime.date.__new__")) := by rw [typeLookup_type, builtinLookup_eq_fast]; kernel_rfl
theorem date_sub : isSubtype (.type "datetime.date") (.type "datetime.date") = pure true := by rw [isSubtype_type]; kernel_rfl
theorem date_nsub : isSubtype (.type "datetime.date") (.type "datetime.datetime") = pure false := by rw [isSubtype_type]; kernel_rfl
theorem slot_date_init : Slot "datetime.date" "__init__" "object.__init__" := .of (owner := "object") (n := "__init__") (by rw [typeLookup_type, builtinLookup_eq_fast]; kernel_rfl) (by decide +kernel) (by decide +kernel) (by decide +kernel) (.inl (by decide +kernel)) (by rw [isSubtype_type]; kernel_rfl)
theorem called_date : TypeCalled "datetime.date" "datetime.date.__new__" "object.__init__" :=
  ⟨by decide +kernel, by decide +kernel, ⟨_, _, mro_date'⟩, madeBy_type mro_date' lookup_date_new (by decide +kernel), by decide +kernel, date_sub, slot_date_init⟩
theorem typeCall_date (a b c : Value) : checkTypeCall "datetime.date" ⟨[a, b, c], []⟩ = pure () := by kernel_rfl
theorem newCall_date (a b c : Value) : checkBuiltinCall "datetime.date.__new__" ⟨[.type "datetime.date", a, b, c], []⟩ = pure () := by kernel_rfl
theorem initArgs_date (o a b c : Value) : argsOk "object.__init__" ⟨[o, a, b, c], []⟩ := by unfold argsOk; kernel_rfl
abbrev dateO (y m d : Int) : Obj := { cls := .type "datetime.date", data := .fields [rawInt y, rawInt m, rawInt d].toArray }
theorem isType_date {M : Model} {A : Around} {E : Value → Shared → Prop} {s : Shared} {Q : Bool → Shared → Prop} (h : Q true s) : wpAny M A (isType (.type "datetime.date")) Q E s := by
  exact wpAny_pure h
theorem month_31 : ∀ (lp : Bool) (m : Fin 13), 1 ≤ m.val → 1 ≤ (if ((m.val : Int) == 2 && lp) = true then (29 : Int) else (([31, 28, 31, 30, 31, 30, 31, 31, 30, 31, 30, 31] : List Int)[((m.val : Int) - 1).toNat]?).getD 0) := by decide +kernel
theorem days_31 (y m : Int) (h1 : 1 ≤ m) (h2 : m ≤ 12) : 1 ≤ Builtin._datetime.daysInMonth y m := by
  have h := month_31 (Builtin.Time.timeIsLeap y) ⟨m.toNat, by lia⟩ (by show 1 ≤ m.toNat; lia)
  simp only [Int.toNat_of_nonneg (show 0 ≤ m by lia)] at h
  exact h
theorem bind_ints {y m d : Int} {t u v : Tok} (hy : 1 ≤ y ∧ y ≤ 9999) (hm : 1 ≤ m ∧ m ≤ 12) (hd : 1 ≤ d ∧ d ≤ 31) {M : Model} {A : Around} {E : Value → Shared → Prop} {s : Shared} {Q : List (Option Int) → Shared → Prop} (h : Q [some y, some m, some d] s) :
    wpAny M A (Builtin._datetime.dtBindInts "datetime.date.__new__" "function" ["year", "month", "day"] 3 [.int y t, .int m u, .int d v] []) Q E s := by
  unfold Builtin._datetime.dtBindInts
  have ci : ∀ (i : Int) (t : Tok) (Q : Int → Shared → Prop), 0 ≤ i → i < 10000 → Q i s → wpAny M A (Builtin._datetime.dtCInt (.int i t)) Q E s := by
    intro i t Q h0 h1 hq
    unfold Builtin._datetime.dtCInt
    refine wpAny_bind (m := asIndex _) (wpAny_pure ?_)
    refine wpAny_ite_false (by simp; lia) ?_
    refine wpAny_ite_false (by simp; lia) ?_
    refine wpAny_ite_false (by simp; lia) ?_
    exact wpAny_pure hq
  dsimp only
  refine wpAny_ite_false (by simp) ?_
  show wpAny M A (do
    let r ← forIn [((Str.ofString "year"), 0), ((Str.ofString "month"), 1), ((Str.ofString "day"), 2)] _ _
    _) Q E s
  rw [List.forIn_cons]
  refine wpAny_bind (wpAny_bind ?_)
  refine wpAny_bind (ci y t _ (by lia) (by lia) (wpAny_pure ?_))
  dsimp only
  rw [List.forIn_cons]
  refine wpAny_bind ?_
  refine wpAny_bind (ci m u _ (by lia) (by lia) (wpAny_pure ?_))
  dsimp only
  rw [List.forIn_cons]
  refine wpAny_bind ?_
  refine wpAny_bind (ci d v _ (by lia) (by lia) (wpAny_pure ?_))
  dsimp only
  rw [List.forIn_nil]
  refine wpAny_pure ?_
  refine wpAny_bind (m := Builtin._datetime.dtBind _ _ _ _ _ _) (wpAny_of_eq (a := [some (.int y t), some (.int m u), some (.int d v)]) (by rfl) ?_)
  exact wpAny_pure h
section
variable {prog : Program} {w : World} {A : Around} {E : Value → Shared → Prop} {s : Shared} {h₀ : Heap} {Lo : Addr} {m : Str → Option Value} {news : List (Addr × Obj)} {Q : Value → Shared → Prop}
theorem date_new_meets {y m : Int} {t u v : Tok} (hy : 1 ≤ y ∧ y ≤ 9999) (hm : 1 ≤ m ∧ m ≤ 12) : Meets (Builtin.«datetime.date.__new__» ⟨[.type "datetime.date", .int y t, .int m u, .int 1 v], []⟩)
    (fun _ R s => R (.ok (.ret (.ref s.heap.objs.size))) { s with heap := s.heap.push (dateO y m 1) }) := by
  refine Meets.of_wp fun prog w A R s h => ?_
  have h1 := date_sub
  have h2 := date_nsub
  unfold Builtin.«datetime.date.__new__» Builtin._datetime.dtNewClass
  refine wpAny_bind (wpAny_bind (isType_date ?_))
  refine wpAny_ite_false (by simp) ?_
  refine wpAny_bind (wpAny_of_eq h1 ?_)
  refine wpAny_ite_false (by simp) (wpAny_pure ?_)
  dsimp only
  refine wpAny_bind (wpAny_of_eq h2 ?_)
  refine wpAny_ite_false (by simp) ?_
  refine wpAny_bind (bind_ints hy hm ⟨by decide, by decide⟩ ?_)
  dsimp only
  unfold Builtin._datetime.newDateRaw Builtin._datetime.checkDate
  have := days_31 y m hm.1 hm.2
  refine wpAny_bind (wpAny_bind ?_)
  refine wpAny_ite_false (by simp; lia) ?_
  refine wpAny_ite_false (by simp; lia) ?_
  refine wpAny_ite_false (by simp; lia) ?_
  refine wpAny_pure ?_
  refine wpAny_newObj_type (wpAny_pure ⟨_, rfl, h⟩) (by simp [sizeOk, sizeLine_eq])
theorem date_ne : (some "datetime.date.__new__" != some "object.__new__") = true := by decide +kernel
theorem call_date {y mo : Int} {t u v : Tok} (hy : 1 ≤ y ∧ y ≤ 9999) (hm : 1 ≤ mo ∧ mo ≤ 12) (F : Fr h₀ Lo s.heap m) (N : News h₀ Lo s.heap news)
    (h : ∀ D h', Fr h₀ Lo h' m → News h₀ Lo h' ((D, dateO y mo 1) :: news) → (∀ p ∈ news, p.1 < D) → Q (.ref D) { s with heap := h' }) : wpAny (model prog w) A (call (.type "datetime.date") [.int y t, .int mo u, .int 1 v]) Q E s :=
  callType_new called_date date_ne (typeCall_date _ _ _) (newCall_date _ _ _) (fun obj => initArgs_date obj _ _ _) entry_datenew (date_new_meets hy hm)
    ⟨⟨_, Heap.get?_push_size _ rfl, rfl⟩, h _ _ (F.push _) (N.push F _) fun p hp => Heap.lt_size (N p hp).1⟩
theorem call_ord {D : Addr} {y mo d : Int} (N : News h₀ Lo s.heap news) (hd : (D, dateO y mo d) ∈ news) (h : Q (.int (Builtin._datetime.toOrdinal y mo d) s.toks) { s with toks := s.toks + 1 }) :
    wpAny (model prog w) A (call (.builtin "datetime.date.toordinal") [.ref D]) Q E s := by
  have hT : s.TypeIs (.ref D) "datetime.date" := ⟨_, (N _ hd).1, rfl⟩
  refine wpAny_call_entry slot_ord hT entry_ord ?_ (args_ord _)
  show wpAny _ _ (Builtin._datetime.dateParts (.ref D) >>= _) _ _ _
  unfold Builtin._datetime.dateParts Builtin._datetime.dateParts?
  refine wpAny_bind (wpAny_bind (wpAny_bind (wpAny_isInstance hT date_sub ?_)))
  refine wpAny_ite_false (by simp) ?_
  refine wpAny_bind (wpAny_fieldsOf (N _ hd).1 rfl ?_)
  refine wpAny_pure (wpAny_pure ?_)
  refine wpAny_bind (wpAny_mkInt (wpAny_pure ⟨_, rfl, h⟩))
theorem mat_bool : typeLookup (.type "re.Match") "__bool__" = pure none := by rw [typeLookup_type, builtinLookup_eq_fast]; kernel_rfl
theorem mat_len : typeLookup (.type "re.Match") "__len__" = pure none := by rw [typeLookup_type, builtinLookup_eq_fast]; kernel_rfl
theorem truthy_match {D : Addr} {P : Addr} {x : Str} {t : Tok} {lim : Nat} {li : Int} {D1 : Addr} {Q : Bool → Shared → Prop} (N : News h₀ Lo s.heap news) (hd : (D, matO P x t lim li D1) ∈ news) (h : Q true s) : wpAny (model prog w) A (truthy (.ref D)) Q E s := by
  have hT : s.TypeIs (.ref D) "re.Match" := ⟨_, (N _ hd).1, rfl⟩
  unfold truthy
  refine wpAny_bind (wpAny_callSpecial?_none hT mat_bool ?_)
  dsimp only
  refine wpAny_bind (wpAny_specialOf hT mat_len ?_)
  exact wpAny_ite_true (by rfl) (wpAny_pure h)
theorem call_search {K : Frag} {a : Addr} {g : Nat} {x : Str} {t : Tok} {R : Option Rx.Marks} (ok : patOk K a g = true) (hK : K.In h₀) (he : Rx.Ends (2 * g) (Sre.forSearch (Rx.codeAt K a) x.cps g 0 x.cps.size false) R) (hg : g ≤ 100) (hx : x.cps.size ≤ 100) (F : Fr h₀ Lo s.heap m) (N : News h₀ Lo s.heap news)
    (hno : R = none → Q .none s)
    (hyes : ∀ L, R = some L → sane g L = true ∧ ∀ D1 D2 h' st en li, Fr h₀ Lo h' m → News h₀ Lo h' ((D2, matO a x t x.cps.size li D1) :: (D1, tupO g L st en) :: news) → (∀ p ∈ news, p.1 < D1) → D1 < D2 → (∀ p ∈ news, p.1 < D2) → Q (.ref D2) { s with heap := h' }) :
    wpAny (model prog w) A (call (.builtin "re.Pattern.search") [.ref a, .str x t]) Q E s := by
  obtain ⟨vs, sl, tt, c, d, xs, k, sl2, o1, o2, e5, e2, e6, ec⟩ := patOk_spec ok
  have hK' : K.In s.heap := hK.keeps F.keep
  exact wpAny_call_entry slot_search ⟨_, hK' _ _ o1, rfl⟩ entry_search (codeS ok hK' he hg hx F N hno hyes) (args_search _ _)
theorem get_search {K : Frag} {a : Addr} {g : Nat} {pl : Sem Bool} {Q : Value × List Value → Shared → Prop} (ok : patOk K a g = true) (hK : K.In h₀) (F : Fr h₀ Lo s.heap m) (h : Q (.builtin "re.Pattern.search", [.ref a]) s) : wpAny (model prog w) A (getMethod (.ref a) "search" pl) Q E s := by
  obtain ⟨vs, sl, tt, c, d, xs, k, sl2, o1, o2, e5, e2, e6, ec⟩ := patOk_spec ok
  have hK' : K.In s.heap := hK.keeps F.keep
  exact getMethod_ref (hK' _ _ o1) rfl rfl pat_ga (by decide +kernel) pat_gt pat_search pat_search_type h
theorem get_groups {D : Addr} {P : Addr} {x : Str} {t : Tok} {lim : Nat} {li : Int} {D1 : Addr} {pl : Sem Bool} {Q : Value × List Value → Shared → Prop} (N : News h₀ Lo s.heap news) (hd : (D, matO P x t lim li D1) ∈ news) (h : Q (.builtin "re.Match.groups", [.ref D]) s) : wpAny (model prog w) A (getMethod (.ref D) "groups" pl) Q E s :=
  getMethod_ref (N _ hd).1 rfl rfl mat_ga (by decide +kernel) mat_gt mat_groups mat_groups_type h
theorem get_group {D : Addr} {P : Addr} {x : Str} {t : Tok} {lim : Nat} {li : Int} {D1 : Addr} {pl : Sem Bool} {Q : Value × List Value → Shared → Prop} (N : News h₀ Lo s.heap news) (hd : (D, matO P x t lim li D1) ∈ news) (h : Q (.builtin "re.Match.group", [.ref D]) s) : wpAny (model prog w) A (getMethod (.ref D) "group" pl) Q E s :=
  getMethod_ref (N _ hd).1 rfl rfl mat_ga (by decide +kernel) mat_gt mat_group mat_group_type h
theorem get_ord {D : Addr} {y mo d : Int} {pl : Sem Bool} {Q : Value × List Value → Shared → Prop} (N : News h₀ Lo s.heap news) (hd : (D, dateO y mo d) ∈ news) (h : Q (.builtin "datetime.date.toordinal", [.ref D]) s) : wpAny (model prog w) A (getMethod (.ref D) "toordinal" pl) Q E s :=
  getMethod_ref (N _ hd).1 rfl rfl date_ga (by decide +kernel) date_gt date_ord date_ord_type h
theorem call_groups {P D1 D2 : Addr} {g : Nat} {x : Str} {t : Tok} {lim : Nat} {st en li : Int} {L : Rx.Marks} (hg : g ≤ 100) (hx : x.cps.size ≤ 100) (F : Fr h₀ Lo s.heap m) (N : News h₀ Lo s.heap news) (hm : (D2, matO P x t lim li D1) ∈ news) (ht : (D1, tupO g L st en) ∈ news)
    (h : ∀ D h' tk (tv : Nat → Tok), Fr h₀ Lo h' m → News h₀ Lo h' ((D, ({ cls := .type "tuple", data := .seq ((List.range g).map fun j => gval (gtext x L j) (tv j)).toArray } : Obj)) :: news) → (∀ p ∈ news, p.1 < D) → Q (.ref D) { s with heap := h', toks := tk }) :
    wpAny (model prog w) A (call (.builtin "re.Match.groups") [.ref D2]) Q E s :=
  wpAny_call_entry slot_groups ⟨_, (N _ hm).1, rfl⟩ entry_groups (codeG hg hx F N hm ht h) (args_groups _)
theorem call_group {P D1 D2 : Addr} {g : Nat} (j : Nat) {x : Str} {t u : Tok} {lim : Nat} {st en li : Int} {L : Rx.Marks} (hj : j < g) (hg : g ≤ 100) (hx : x.cps.size ≤ 100) (N : News h₀ Lo s.heap news) (hm : (D2, matO P x t lim li D1) ∈ news) (ht : (D1, tupO g L st en) ∈ news)
    (h : ∀ tk tv, Q (gval (gtext x L j) tv) { s with toks := tk }) :
    wpAny (model prog w) A (call (.builtin "re.Match.group") [.ref D2, .int ((j + 1 : Nat) : Int) u]) Q E s :=
  wpAny_call_entry slot_group ⟨_, (N _ hm).1, rfl⟩ entry_group (codeK hj hg hx N hm ht h) (args_group _ _)
theorem getItem_tup6 {l sl : Addr} {a b c d e f z : Value} {n : Nat} {u : Tok} (N : News h₀ Lo s.heap news) (F : Fr h₀ Lo s.heap m) (hl : (l, ({ cls := .type "tuple", data := .seq [a, b, c, d, e, f, z].toArray n } : Obj)) ∈ news) (hs : s.heap.IsSliceOf sl .none (.int 6 u) .none)
    (h : Q (.ref s.heap.objs.size) { s with heap := s.heap.push { cls := .type "tuple", data := .seq [a, b, c, d, e, f].toArray } }) : wpAny (model prog w) A (getItem (.ref l) (.ref sl)) Q E s := by
  have hT : s.TypeIs (.ref l) "tuple" := ⟨_, (N _ hl).1, rfl⟩
  obtain ⟨os, hos, hcs, hds⟩ := id hs
  have hTs : s.TypeIs (.ref sl) "slice" := ⟨os, hos, hcs⟩
  unfold getItem
  refine wpAny_holding ?_
  refine wpAny_bind (wpAny_sequenceKey hT (by decide) ?_)
  refine wpAny_bind (wpAny_callSpecial?_slot (name := Str.ofString "__getitem__") hT PySem.F.slot_tuple_getitem
    (wpAny_call_entry PySem.F.slot_tuple_getitem hT PySem.F.entry_tuple_getitem ?_ (PySem.F.args_tuple_getitem_2 _ _)))
  have part : ∀ (v : Value) (k : Option Int) (Q : Option Int → Shared → Prop), IsPart v k → Q k s → wpAny (model prog w) A.in1 (Builtin.Slice.slicePartIndex v) Q E s := by
    intro v k Q hv hq
    cases hv with
    | none => exact wpAny_pure hq
    | int i t =>
      unfold Builtin.Slice.slicePartIndex
      refine wpAny_ite_false (by rfl) ?_
      refine wpAny_bind (wpAny_specialOf (T := "int") (typeIs_int s i t) int_index ?_)
      refine wpAny_ite_false (by simp) ?_
      exact wpAny_bind (m := asIndex _) (wpAny_pure (wpAny_pure hq))
  have fld : ∀ (i : Nat) (v : Value) (Q : Value → Shared → Prop), (#[Value.none, .int 6 u, .none] : Array Value)[i]? = some v → Q v s → wpAny (model prog w) A.in1 (field (.ref sl) i) Q E s := by
    intro i v Q e hq
    unfold field
    refine wpAny_bind (wpAny_fieldsOf hos hds ?_)
    rw [e]
    exact wpAny_pure hq
  unfold Builtin.«tuple.__getitem__»
  refine wpAny_bind (m := slotArgs "__getitem__" 1 _) (wpAny_pure ?_)
  dsimp only
  unfold Builtin.Tuple.tupleItemsOf
  refine wpAny_bind (wpAny_bind (m := seqItems? (.ref l)) ?_)
  refine wpAny_bind (wpAny_load (N _ hl).1 ?_)
  refine wpAny_pure (wpAny_pure ?_)
  refine wpAny_bind (wpAny_typeOf hTs ?_)
  refine wpAny_ite_true (by rfl) ?_
  unfold Builtin.Slice.sliceApplied Builtin.Slice.sliceFields
  refine wpAny_bind (wpAny_bind (wpAny_bind (fld 0 _ _ rfl (wpAny_bind (fld 1 _ _ rfl (wpAny_bind (fld 2 _ _ rfl (wpAny_pure ?_))))))))
  dsimp only
  refine wpAny_bind (part _ _ _ .none ?_)
  refine wpAny_ite_false (by rfl) ?_
  refine wpAny_bind (part _ _ _ .none (wpAny_bind (part _ _ _ (.int 6 u) ?_)))
  refine wpAny_bind (wpAny_pure (wpAny_pure ?_))
  refine wpAny_ite_false (by rfl) ?_
  refine wpAny_bind ?_
  unfold Builtin.Tuple.tupleExact
  refine wpAny_newObj_type (wpAny_pure ⟨_, rfl, wpAny_pure ?_⟩) (by show (List.length _ ≤ _); rw [sizeLine_eq]; exact Nat.le_trans (Nat.le_of_eq (rfl : _ = 6)) (by decide))
  exact h
theorem tup_slice {value slice : PySem.Expr} {l : Addr} {a b c d e f z : Value} {n : Nat} {u : Tok} (F : Fr h₀ Lo s.heap m) (N : News h₀ Lo s.heap news) (hl : (l, ({ cls := .type "tuple", data := .seq [a, b, c, d, e, f, z].toArray n } : Obj)) ∈ news)
    (h : ∀ D h', Fr h₀ Lo h' m → News h₀ Lo h' ((D, ({ cls := .type "tuple", data := .seq [a, b, c, d, e, f].toArray } : Obj)) :: news) → (∀ p ∈ news, p.1 < D) → Q (.ref D) { s with heap := h' })
    (hs : subscripted slice false (.ref l) (.ref s.heap.objs.size) = operate [.ref s.heap.objs.size, .ref l] (getItem (.ref l) (.ref s.heap.objs.size))) (ht : ∀ r, letTemporaryGo value (.ref l) r = pure ()) :
    wpAny (model prog w) A (subscriptTail value slice (.ref l) (.ref s.heap.objs.size)) Q E { s with heap := s.heap.push { cls := .type "slice", data := .fields #[.none, .int 6 u, .none] } } := by
  have N1 := N.grown (h' := s.heap.push { cls := .type "slice", data := .fields #[.none, .int 6 u, .none] }) fun _ _ e => Heap.get?_push_of_some _ e
  have F1 := F.push { cls := .type "slice", data := .fields #[.none, .int 6 u, .none] }
  refine subscriptTail_ops (T := "tuple") ⟨_, (N1 _ hl).1, rfl⟩ PySem.F.slot_tuple_getitem.lookup (getItem_tup6 (s := { s with heap := s.heap.push { cls := .type "slice", data := .fields #[.none, .int 6 u, .none] } }) N1 F1 hl (Heap.IsSliceOf.new ..) ?_) hs ht
  exact h _ _ (F1.push _) (N1.push F1 _) fun p hp => Heap.lt_size (N1 p hp).1
end
end Mine
end
section
set_option maxRecDepth 100000
namespace Mine
open PySem PySem.W PyProof.Rows PySem.Spec PySem.Calls
/-- a claim of the def at f that needs n frames -/
abbrev Cl (n : Nat) (w : World) (mean : ExcName → Option Value) (mg mb : Str → Option Value) (f : Addr) (news : List (Addr × Obj)) (pre : Prop) (vs : List Value) (R : Tok → Value) : Prop :=
  ∀ (dp un : Nat) (gd : Option (List Code)) (cn : Str) (cs : Scope) (a : Addr) (ccd : Value) (cl : List (Str × Addr)) (outer : List Env) (A₀ : Around) (base h₀ : Heap) (L : Addr) (m : Str → Option Value) (s : Shared) (Q E : Value → Shared → Prop),
    Below A₀ base outer h₀ → Fr h₀ L s.heap m → (mk.heap_1 w.params).In h₀ → News h₀ L s.heap news → Top vw (looseW vw lse) mean mg mb h₀ → cs.kind = .function →
    pre → dp + n < recursionLimit → un + 8 * n < cLine → CbRet h₀ L m news s Q R →
      wpAny (model PySem.Challenge.rw_ko0035_01.row.prog w) (ktrTop dp un gd cn cs L a ccd cl outer) (call (.ref f) vs) Q E s
theorem cb_push {h₀ h : Heap} {L : Addr} {p : Addr × Obj} {news : List (Addr × Obj)} (N : News h₀ L h news) (hp : p ∈ news) : News h₀ L h (p :: news) := fun q hq => by
  rcases List.mem_cons.mp hq with rfl | hq
  · exact N _ hp
  · exact N _ hq
theorem cb_tail {h₀ h : Heap} {L : Addr} {p : Addr × Obj} {news : List (Addr × Obj)} (N : News h₀ L h (p :: news)) : News h₀ L h news := fun q hq => N q (List.mem_cons_of_mem _ hq)
def resV (r : Option Int) (t : Tok) : Value := match r with
  | some i => .int i t
  | none => .none
/-- the walker has no line for these two heads: it stops there -/
def frozen {α : Type} (t : Sem α) : Sem α := t
def halt : Sem Unit := pure ()
section
variable {α : Type} {M : Model} {A : Around} {E : Value → Shared → Prop} {s : Shared}
theorem thaw {t : Sem α} {Q : α → Shared → Prop} (h : wpAny M A (frozen t) Q E s) : wpAny M A t Q E s := h
theorem melt {t : Sem α} {Q : α → Shared → Prop} (h : wpAny M A t Q E s) : wpAny M A (frozen t) Q E s := h
theorem halted {P : Shared → Prop} (h : P s) : wpAny M A halt (fun _ s' => P s') E s := fun _ _ _ => h
theorem wp_halt {t : Sem α} {P Q : α → Shared → Prop} (h1 : wpAny M A t (fun a s' => wpAny M A halt (fun _ s'' => P a s'') E s') E s) (h2 : ∀ a s', P a s' → Q a s') : wpAny M A t Q E s :=
  fun Γ p hΓ => Sem.wp_mono M Γ t (fun a p1 s1 h => h2 a s1 (h Γ p1 hΓ)) (fun _ _ _ h => h) p s (h1 Γ p hΓ)
end
/-- a statement is over and x stands for v -/
def CutIf (g : Heap) (L : Addr) (m : Str → Option Value) (news : List (Addr × Obj)) (x : Str) (v : Tok → Value) (s : Shared) (f : Flow) (s' : Shared) : Prop :=
  f = .next ∧ ∃ h' tk' tv, s' = { s with heap := h', toks := tk' } ∧ Fr g L h' (fun y => if y = x then some (v tv) else m y) ∧ News g L h' news
section
variable {M : Model} {A : Around} {E : Value → Shared → Prop} {s : Shared} {g h' : Heap} {L : Addr} {m : Str → Option Value} {news news' : List (Addr × Obj)} {x : Str} {v : Tok → Value} {tv : Tok} {tk' : Nat}
theorem cut_if (x : Str) (v : Tok → Value) {t : Sem Flow} {Q : Flow → Shared → Prop} (F : Fr g L s.heap m) (N : News g L s.heap news) (h1 : wpAny M A t (fun f s' => wpAny M A halt (fun _ s'' => CutIf g L m news x v s f s'') E s') E s)
    (h2 : ∀ h' tk' tv, Fr g L h' (fun y => if y = x then some (v tv) else m y) → News g L h' news → Q .next { s with heap := h', toks := tk' }) : wpAny M A t Q E s := by
  refine wp_halt h1 (fun f s' h => ?_)
  obtain ⟨rfl, h', tk', tv, rfl, F', N'⟩ := h
  exact h2 h' tk' tv F' N'
theorem cutIf_set (F : Fr g L h' (fun y => if y = x then some (v tv) else m y)) (N : News g L h' news) : CutIf g L m news x v s .next { s with heap := h', toks := tk' } := ⟨rfl, h', tk', tv, rfl, F, N⟩
theorem cutIf_same (tv : Tok) (e : m x = some (v tv)) (F : Fr g L h' m) (N : News g L h' news) : CutIf g L m news x v s .next { s with heap := h', toks := tk' } := by
  refine ⟨rfl, h', tk', tv, rfl, ?_, N⟩
  have : (fun y => if y = x then some (v tv) else m y) = m := by
    funext y
    split
    · rename_i e2; rw [e2, e]
    · rfl
  rw [this]
  exact F
end
section
variable {α : Type} {M : Model} {A : Around} {E : Value → Shared → Prop} {s : Shared} {g h' : Heap} {L : Addr} {m : Str → Option Value} {news : List (Addr × Obj)} {v : Tok → α} {tv : Tok} {tk' : Nat}
end
theorem Fr.congr {g h : Heap} {L : Addr} {m m' : Str → Option Value} (F : Fr g L h m) (e : ∀ y, m y = m' y) : Fr g L h m' := by
  have : m = m' := funext e
  exact this ▸ F
end Mine
end
section
open PySem PySem.W PyProof.Rows PySem.Spec PySem.Calls
set_option maxRecDepth 100000
set_option maxHeartbeats 8000000
namespace Mine
/-- two figures -/
def two (n : Int) : Str := ⟨#[48 + (n / 10).toNat, 48 + (n % 10).toNat]⟩
theorem two_fin : ∀ n : Fin 100, Txt.item (Str.ofString "0123456789") (Int.fdiv (n.val : Int) 10) ++ Txt.item (Str.ofString "0123456789") (Int.fmod (n.val : Int) 10) = two (n.val : Int) := by decide +kernel
theorem two_eq {n : Int} (h : 0 ≤ n ∧ n < 100) : Txt.item (Str.ofString "0123456789") (Int.fdiv n 10) ++ Txt.item (Str.ofString "0123456789") (Int.fmod n 10) = two n := by
  have := two_fin ⟨n.toNat, by lia⟩
  rwa [show ((n.toNat : Nat) : Int) = n by lia] at this
abbrev twoPre (n : Int) : Prop := 0 ≤ n ∧ n < 100
theorem c_two (w : World) (mean : ExcName → Option Value) (mg mb : Str → Option Value) (news : List (Addr × Obj)) (n : Int) (t : Tok) :
    CbClaim PySem.Challenge.rw_ko0035_01.row.prog w (mk.heap_1 w.params) vw (looseW vw lse) mean mg mb 135 news [] (twoPre n) [.int n t] (fun t => .str (two n) t) := by
  k_fill
  dsimp only [CbClaim, CbLists, CbRet]
  intros
  rename_i hpre hd hu hret
  have hpre' := hpre
  obtain ⟨h0, h1⟩ := hpre
  refine wpAny_call ?_
  k_dflt cell_enter
  k_steps
  rw [two_eq hpre']
  exact hret _ _ _ (by assumption) (by assumption)
end Mine
end
section
open PySem PySem.W PyProof.Rows PySem.Spec PySem.Calls
set_option maxRecDepth 100000
set_option maxHeartbeats 8000000
set_option pp.deepTerms false
namespace Mine
local macro_rules | `(tactic| walk_at "execs cons") => `(tactic| (k_here; (try dsimp only); k_gentoks))
theorem daysOf_nil (n m : Int) : daysOf n m [] = 146097 * n.fdiv 400 := by simp [daysOf]
theorem days_turn {n m a k d : Int} {pre : List Int} (h : a = daysOf n m pre) (hd : d = yearDays (n.fmod 400) m k) : a + d = daysOf n m (pre ++ [k]) := by
  subst h hd
  simp [daysOf]
  lia
abbrev daysPre (y m : Int) : Prop := 1970 ≤ y ∧ y < 10000 ∧ 1 ≤ m ∧ m ≤ 12
theorem c_days (w : World) (mean : ExcName → Option Value) (mg mb : Str → Option Value) (news : List (Addr × Obj)) (n : Int) (t : Tok) (m : Int) (u : Tok) :
    CbClaim PySem.Challenge.rw_ko0035_01.row.prog w (mk.heap_1 w.params) vw (looseW vw lse) mean mg mb 142 news [] (daysPre n m) [.int n t, .int m u] (fun t => .int (daysV n m) t) := by
  k_fill
  dsimp only [CbClaim, CbLists, CbRet]
  intros
  rename_i hpre hd hu hret
  obtain ⟨h0, h1, h2, h3⟩ := hpre
  refine wpAny_call ?_
  k_dflt cell_enter
  k_with "pyIter ref" => k_state_given ["year", "month"] (fun n m pre k => k = daysOf n m pre) "days"
  k_with "state" => first | exact (daysOf_nil _ _).symm | (refine days_turn (by assumption) ?_; unfold yearDays; (repeat' split) <;> first | rfl | lia | (exfalso; lia))
  k_steps
  rename (_ = daysOf _ _ _) => hI
  rw [hI]
  exact hret _ _ _ (by assumption) (by assumption)
end Mine
end
section
set_option maxRecDepth 100000
set_option maxHeartbeats 8000000
set_option pp.deepTerms false
namespace Mine
open PySem PySem.W PyProof.Rows PySem.Spec PySem.Calls
local macro_rules | `(tactic| walk_at "subscriptTail Name Slice ref ref") => `(tactic| (k_here; k_dflt (refine' tup_slice ?F ?N ?l ?_ ?s ?t; (case F => k_asm); (case N => k_asm); (case l => k_mem); (case s => with_unfolding_all rfl); (case t => kmk_pure)); intro D' h' F' N' l1; (try k_lt l1); (try k_sweep)))
local macro_rules | `(tactic| walk_at "call type:datetime.date") => `(tactic| (k_here; k_dflt (refine' call_date ?y ?m ?F ?N ?_; (case y => lia); (case m => lia); (case F => k_asm); (case N => k_asm)); intro D' h' F' N' l1; (try k_lt l1); (try k_sweep)))
local macro_rules | `(tactic| walk_at "getMethod ref") => `(tactic| (k_here; k_dflt (refine' get_ord ?N ?l ?_; (case N => k_asm); (case l => k_mem))))
local macro_rules | `(tactic| walk_at "call builtin:datetime.date.toordinal") => `(tactic| (k_here; k_dflt (refine' call_ord ?N ?l ?_; (case N => k_asm); (case l => k_mem))))
local macro_rules | `(tactic| walk_at "execs cons") => `(tactic| (k_here; (try dsimp only); k_gentoks))
abbrev tupOf (vs : List Value) (n : Nat) : Obj := { cls := .type "tuple", data := .seq vs.toArray n }
/-- the seconds of a day and clock, in the program's own order -/
def secs (y mo d h mi sc : Int) : Int := (((Builtin._datetime.toOrdinal y mo 1 - 719163 + d - 1) * 24 + h) * 60 + mi) * 60 + sc
abbrev InDay (y mo d h mi sc : Int) : Prop := 1970 ≤ y ∧ 1 ≤ mo ∧ mo ≤ 12 ∧ 1 ≤ d ∧ d ≤ 31 ∧ 0 ≤ h ∧ h ≤ 24 ∧ 0 ≤ mi ∧ mi ≤ 59 ∧ 0 ≤ sc ∧ sc ≤ 61
theorem c_timegm (w : World) (mean : ExcName → Option Value) (mg mb : Str → Option Value) (news : List (Addr × Obj)) (a : Addr) (k : Nat) (y mo d h mi sc : Int) (t1 t2 t3 t4 t5 t6 : Tok) (tz : Value) :
    Cl 1 w mean mg mb 69 ((a, tupOf [.int y t1, .int mo t2, .int d t3, .int h t4, .int mi t5, .int sc t6, tz] k) :: news) (1970 ≤ y ∧ y < 10000 ∧ 1 ≤ mo ∧ mo ≤ 12 ∧ 1 ≤ d ∧ d ≤ 31 ∧ 0 ≤ h ∧ h ≤ 24 ∧ 0 ≤ mi ∧ mi ≤ 59 ∧ 0 ≤ sc ∧ sc ≤ 61) [.ref a] (fun t => .int (secs y mo d h mi sc) t) := by
  dsimp only [Cl, CbRet]
  k_fill
  intros
  rename_i hpre hd hu hret
  obtain ⟨h1, h2, h3, h4, h5, h6, h7, h8, h9, h10, h11, h12⟩ := hpre
  refine wpAny_call ?_
  k_dflt cell_enter
  k_steps
  all_goals cb_end hret
end Mine
end
section
set_option maxRecDepth 100000
set_option maxHeartbeats 1000000
set_option pp.deepTerms false
namespace Mine
open PySem PySem.W PyProof.Rows PySem.Spec PySem.Calls
local macro_rules | `(tactic| walk_at "subscriptTail Name Slice ref ref") => `(tactic| (k_here; k_dflt (refine' tup_slice ?F ?N ?l ?_ ?s ?t; (case F => k_asm); (case N => k_asm); (case l => k_mem); (case s => with_unfolding_all rfl); (case t => kmk_pure)); intro D' h' F' N' l1; (try k_lt l1); (try k_sweep)))
local macro_rules | `(tactic| walk_at "call ref") => `(tactic| (k_here; (with_reducible show wpAny _ _ (call (Value.ref 69) _) _ _ _); k_dflt ((have hCb := c_timegm); dsimp only [Cl, CbRet] at hCb; refine' hCb _ _ _ _ _ _ _ _ _ _ _ _ _ _ _ _ _ _ _ _ _ _ _ _ _ _ _ _ _ _ _ _ _ _ _ _ _ ?k1 ?k2 ?k3 ?k4 ?k5 ?kK ?kp ?kd ?ku ?kR; clear hCb; (case k1 => k_asm); (case k2 => k_asm); (case k3 => k_asm); (case k4 => (refine' cb_push ?n1 ?n2; (case n1 => k_asm); (case n2 => k_mem))); (case k5 => k_asm); (case kK => first | exact rfl | assumption); (case kp => omega); (case kd => ktr_room); (case ku => ktr_units)); intro t9 h9 tk9 F9 N9; (replace N9 := cb_tail N9); (try dsimp only); (try k_fold)))
local macro_rules | `(tactic| walk_at "execs cons") => `(tactic| (k_here; (try dsimp only); k_gentoks))
theorem c__timegm (w : World) (mean : ExcName → Option Value) (mg mb : Str → Option Value) (news : List (Addr × Obj)) (a : Addr) (k : Nat) (y mo d h mi sc : Int) (t1 t2 t3 t4 t5 t6 : Tok) (tz : Value) :
    Cl 2 w mean mg mb 76 ((a, tupOf [.int y t1, .int mo t2, .int d t3, .int h t4, .int mi t5, .int sc t6, tz] k) :: news) (y < 10000) [.ref a] (fun t => if InDay y mo d h mi sc then .int (secs y mo d h mi sc) t else .none) := by
  dsimp only [Cl, CbRet]
  k_fill
  intros
  rename_i hpre hd hu hret
  refine wpAny_call ?_
  k_dflt cell_enter
  k_steps
  all_goals first
    | (have hz : InDay y mo d h mi sc := by unfold InDay; omega
       have hr := hret
       simp only [if_pos hz] at hr
       exact hr _ _ _ (by assumption) (by first | assumption | (refine cb_drop (by assumption) ?_; kcj_all)))
    | (have hz : ¬ InDay y mo d h mi sc := by unfold InDay; omega
       have hr := hret
       simp only [if_neg hz] at hr
       exact hr 0 _ _ (by assumption) (by first | assumption | (refine cb_drop (by assumption) ?_; kcj_all)))
end Mine
end
section
set_option maxRecDepth 100000
set_option maxHeartbeats 400000
set_option pp.deepTerms false
namespace Mine
open PySem PySem.W PyProof.Rows PySem.Spec PySem.Calls
def utc (z : Str) : Bool := (decide (z = { cps := #[71, 77, 84] }) || (decide (z = { cps := #[85, 84, 67] }) || (decide (z = { cps := #[85, 84] }) || (decide (z = { cps := #[90] }) || false))))
inductive OffR (z : Str) : Option Int → Prop
  | utc : utc z = true → OffR z (some 0)
  | no : utc z = false → Rx.found Rx.tzR 1 z.cps = none → OffR z none
  | yes {L : Rx.Marks} {hs : Str} {hh mm : Int} {neg : Bool} : utc z = false → Rx.found Rx.tzR 1 z.cps = some L → sane 3 L = true → gtext z L 1 = some hs → PySem.intText? hs = some hh → hs.length ≤ 640 →
      (gtext z L 2 = none ∧ mm = 0 ∨ ∃ ms, gtext z L 2 = some ms ∧ ms.length ≠ 0 ∧ PySem.intText? ms = some mm ∧ ms.length ≤ 640) →
      (gtext z L 0 = none ∧ neg = false ∨ gtext z L 0 = some (Str.ofString "+") ∧ neg = false ∨ gtext z L 0 = some (Str.ofString "-") ∧ neg = true) → OffR z (some (if neg then -(3600 * hh + 60 * mm) else 3600 * hh + 60 * mm))
theorem OffR.is_utc {z : Str} {o : Option Int} (h : OffR z o) (e : Mine.utc z = true) : o = some 0 := by
  cases h with
  | utc h => rfl
  | no h _ => rw [h] at e; cases e
  | yes h => rw [h] at e; cases e
theorem OffR.is_no {z : Str} {o : Option Int} (h : OffR z o) (e : Mine.utc z = false) (hf : Rx.found Rx.tzR 1 z.cps = none) : o = none := by
  cases h with
  | utc h => rw [h] at e; cases e
  | no h _ => rfl
  | yes h h2 => rw [hf] at h2; cases h2
theorem OffR.is_yes {z : Str} {o : Option Int} {L : Rx.Marks} (h : OffR z o) (e : Mine.utc z = false) (hf : Rx.found Rx.tzR 1 z.cps = some L) : sane 3 L = true ∧ ∃ hs hh mm neg, gtext z L 1 = some hs ∧ PySem.intText? hs = some hh ∧ hs.length ≤ 640 ∧
      (gtext z L 2 = none ∧ mm = 0 ∨ ∃ ms, gtext z L 2 = some ms ∧ ms.length ≠ 0 ∧ PySem.intText? ms = some mm ∧ ms.length ≤ 640) ∧
      (gtext z L 0 = none ∧ neg = false ∨ gtext z L 0 = some (Str.ofString "+") ∧ neg = false ∨ gtext z L 0 = some (Str.ofString "-") ∧ neg = true) ∧ o = some (if neg then -(3600 * hh + 60 * mm) else 3600 * hh + 60 * mm) := by
  cases h with
  | utc h => rw [h] at e; cases e
  | no h h2 => rw [hf] at h2; cases h2
  | yes h h2 h3 h4 h5 h6 h7 h8 => rw [hf] at h2; cases h2; exact ⟨h3, _, _, _, _, h4, h5, h6, h7, h8, rfl⟩
local macro_rules | `(tactic| walk_at "execs cons") => `(tactic| (k_here; (try dsimp only); k_gentoks))
local macro_rules | `(tactic| walk_at "getMethod ref") => `(tactic| (k_here; k_dflt (first | (refine' get_search (K := mk.heap_1 _) (g := 3) ?o ?X ?F ?_; (case o => exact Rx.tz_pat _); (case X => k_asm); (case F => k_asm)) | (refine' get_group ?N ?l ?_; (case N => k_asm); (case l => k_mem)))))
local macro_rules | `(tactic| walk_at "call builtin:re.Pattern.search") => `(tactic| (k_here; refine thaw ?_))
local macro_rules | `(tactic| walk_at "call builtin:re.Match.group") => `(tactic| (k_here; refine thaw ?_))
local macro_rules | `(tactic| walk_at "truthy ref") => `(tactic| (k_here; k_dflt (refine' truthy_match ?N ?l ?_; (case N => k_asm); (case l => k_mem))))
local macro_rules | `(tactic| walk_at "exec If") => `(tactic| (k_here; (fail_if_success (with_reducible show wpAny _ _ _ (fun _ _ => wpAny _ _ halt _ _ _) _ _)); (first | (with_reducible show wpAny _ _ (exec (Stmt.If _ _ _ ⟨38, _, _, _⟩) _) _ _ _) | (with_reducible show wpAny _ _ (exec (Stmt.If _ _ _ ⟨36, _, _, _⟩) _) _ _ _)); refine thaw ?_))
theorem c_off (w : World) (mean : ExcName → Option Value) (mg mb : Str → Option Value) (news : List (Addr × Obj)) (z : Str) (t : Tok) (o : Option Int) :
    Cl 1 w mean mg mb 95 news (z.length ≤ 60 ∧ OffR z o) [.str z t] (fun t => match o with | some i => .int i t | none => .none) := by
  dsimp only [Cl, CbRet]
  k_fill
  intros
  rename_i hpre hd hu hret
  obtain ⟨hz, ho⟩ := hpre
  refine wpAny_call ?_
  k_dflt cell_enter
  k_steps
  · rename (_ = true) => hut
    have e := ho.is_utc hut
    subst e
    exact hret _ _ _ (by assumption) (by assumption)
  refine melt ?_
  rename (_ = false) => hut
  k_dflt (refine' call_search (K := mk.heap_1 _) (g := 3) ?o ?X ?e ?g ?x ?F ?N ?hn ?hy)
  case o => exact Rx.tz_pat _
  case X => k_asm
  case e => exact Rx.tz_ends _ (Nat.le_trans hz (by decide))
  case g => decide
  case x => exact Nat.le_trans hz (by decide)
  case F => k_asm
  case N => k_asm
  case hn =>
    intro hf
    have e := ho.is_no hut hf
    subst e
    k_steps
    exact hret 0 _ _ (by assumption) (by assumption)
  case hy =>
    intro L hf
    obtain ⟨hsane, hs, hh, mm, neg, g2, i2, l2, g3, g1, e⟩ := ho.is_yes hut hf
    subst e
    refine ⟨hsane, ?_⟩
    intro D1 D2 h' st en li F' N' l1 l2 l3
    k_steps
    refine melt ?_
    k_dflt (refine' call_group 1 (g := 3) (L := L) ?j ?g ?x ?N ?m ?t ?_)
    case j => decide
    case g => decide
    case x => exact Nat.le_trans hz (by decide)
    case N => k_asm
    case m => k_mem
    case t => k_mem
    intro tk tv
    rw [g2]
    dsimp only [gval]
    k_steps
    refine melt ?_
    k_dflt (refine' cut_if (Str.ofString "offset") (fun t => .int (3600 * hh + 60 * mm) t) ?F ?N ?h1 ?h2)
    case F => k_asm
    case N => k_asm
    case h1 =>
      rcases g3 with ⟨g3, rfl⟩ | ⟨ms, g3, hne, i3, l3'⟩
      · k_steps
        refine melt ?_
        k_dflt (refine' call_group 2 (g := 3) (L := L) ?j ?g ?x ?N ?m ?t ?_)
        case j => decide
        case g => decide
        case x => exact Nat.le_trans hz (by decide)
        case N => k_asm
        case m => k_mem
        case t => k_mem
        intro tk tv
        rw [g3]
        dsimp only [gval]
        k_steps
        exact halted (cutIf_same _ (show _ = some (Value.int (3600 * hh + 60 * 0) _) by rw [show 3600 * hh + 60 * (0 : Int) = 3600 * hh by omega]; rfl) (by assumption) (by assumption))
      · k_steps
        refine melt ?_
        k_dflt (refine' call_group 2 (g := 3) (L := L) ?j ?g ?x ?N ?m ?t ?_)
        case j => decide
        case g => decide
        case x => exact Nat.le_trans hz (by decide)
        case N => k_asm
        case m => k_mem
        case t => k_mem
        intro tk tv
        rw [g3]
        dsimp only [gval]
        k_steps
        any_goals (exfalso; omega)
        refine melt ?_
        k_dflt (refine' call_group 2 (g := 3) (L := L) ?j ?g ?x ?N ?m ?t ?_)
        case j => decide
        case g => decide
        case x => exact Nat.le_trans hz (by decide)
        case N => k_asm
        case m => k_mem
        case t => k_mem
        intro tk tv
        rw [g3]
        dsimp only [gval]
        k_steps
        exact halted (cutIf_set (by assumption) (by assumption))
    case h2 =>
      intro h2 tk2 tv2 F2 N2
      dsimp only
      k_steps
      refine melt ?_
      k_dflt (refine' cut_if (Str.ofString "offset") (fun t => .int (if neg = true then -(3600 * hh + 60 * mm) else 3600 * hh + 60 * mm) t) ?F ?N ?h1 ?h2)
      case F => k_asm
      case N => k_asm
      case h1 =>
        rcases g1 with ⟨g1, rfl⟩ | ⟨g1, rfl⟩ | ⟨g1, rfl⟩
        all_goals
          k_steps
          refine melt ?_
          k_dflt (refine' call_group 0 (g := 3) (L := L) ?j ?g ?x ?N ?m ?t ?_)
          case j => decide
          case g => decide
          case x => exact Nat.le_trans hz (by decide)
          case N => k_asm
          case m => k_mem
          case t => k_mem
          intro tk tv
          rw [g1]
          dsimp only [gval]
          k_steps
        · exact halted (cutIf_same _ rfl (by assumption) (by assumption))
        · exact halted (cutIf_same _ rfl (by assumption) (by assumption))
        · exact halted (cutIf_set (by assumption) (by assumption))
      case h2 =>
        intro h2 tk2 tv2 F2 N2
        dsimp only
        k_steps
        exact hret _ _ _ (by assumption) (by first | assumption | (refine cb_drop (by assumption) ?_; kcj_all))
end Mine
end
section
set_option maxRecDepth 100000
set_option maxHeartbeats 1000000
namespace Mine
open PySem PySem.W PyProof.Rows PySem.Calls PySem.Spec PySem.MeetsSeq
section
variable {prog : Program} {w : World} {A₀ : Around} {E : Value → Shared → Prop} {s' : Shared} {base g g₀ h : Heap} {outer : List Env} {L a e : Addr} {m : Str → Option Value} {name : Str} {scope : Scope} {cd : Value}
  {b₀ : Stmt} {suite : List Stmt} {pos np : Pos} {rest : List ExceptHandler} {Q : Flow → Shared → Prop} {news : List (Addr × Obj)} {KF : Frag}
  {p : Program} {loose : List Str} {mean : ExcName → Option Value} {mg mb : Str → Option Value} {x : Str} {X T' : String}
theorem caught_new (hx : Heap.NewExc h s'.heap e X) (F : Fr g L h m) (N : News g L h news) (K : Below A₀ base outer g) (XB : KF.In base) (TB : Top p loose mean mg mb base)
    (D : KtsDicts (outer.filterMap (·.frame)) g) (T0 : KtsTurn (outer.filterMap (·.frame)) g₀ g)
    (ex : nsIn KF mainGlobals x = some none) (hv : bootBuiltins x = some (.type T')) (hn' : x ≠ "__name__")
    (hexc : isSubtype (.type T') (.type "BaseException") = pure true) (hnt : isSubtype (.type ((Manifest.find? T').elim "type" fun y => y.metatype)) (.type "tuple") = pure false) (hsub : isSubtype (.type X) (.type T') = pure true)
    (k : ∀ h' g', KtsTurn (outer.filterMap (·.frame)) g₀ g' → Fr g' L h' m → News g' L h' news → Below A₀ base outer g' → KF.In g' → Top p loose mean mg mb g' → KtsDicts (outer.filterMap (·.frame)) g' →
      wpAny (model prog w) ((A₀.deeper (envOf name scope L a cd)).mark (some (.ref e))) (execs (b₀ :: suite) (envOf name scope L a cd)) Q E { s' with heap := h' })
    (hk : scope.kind = .function := by rfl) (hxk : (envOf name scope L a cd).kindOf x = some .globalImplicit := by rfl) (hd : (x == ("__debug__" : Str)) = false := by decide)
    (hE : PassesOwnAt (model prog w) ((A₀.deeper (envOf name scope L a cd)).mark (some (.ref e))) (A₀.deeper (envOf name scope L a cd)) (envOf name scope L a cd) E := by passes_own) :
    wpAny (model prog w) (A₀.deeper (envOf name scope L a cd)) (noteFrame (.ref e) (envOf name scope L a cd))
      (fun _ s₂ => wpAny (model prog w) (A₀.deeper (envOf name scope L a cd)) (setFlight (.ref e) none) (fun _ s₃ =>
        wpAny (model prog w) (A₀.deeper (envOf name scope L a cd)) (handleBy (.ref e) (envOf name scope L a cd) (.ExceptHandler (some (.Name x np)) none (b₀ :: suite) pos :: rest)) Q E s₃) E s₂) E s' := by
  have K' := K.push (name := name) (a := a) (cd := cd) F hk
  have hin : ∀ env ∈ (envOf name scope L a cd :: outer), ∀ b, env.frame = some b → b ∈ (envOf name scope L a cd :: outer).filterMap (·.frame) := fun env he b hb => List.mem_filterMap.mpr ⟨env, he, hb⟩
  obtain ⟨ob, t, he, hc, hdat⟩ := hx.there
  have sub : (hideAll h ((envOf name scope L a cd :: outer).filterMap (·.frame))).StaysIn s'.heap := fun b o q => hx.keeps b o (of_hideAll _ q)
  have hen : (hideAll h ((envOf name scope L a cd :: outer).filterMap (·.frame))).get? e = none := by
    cases q : (hideAll h ((envOf name scope L a cd :: outer).filterMap (·.frame))).get? e with
    | none => rfl
    | some o => have := of_hideAll _ q; rw [hx.new] at this; cases this
  have hff : s'.heap.FunFrames (hideAll h ((envOf name scope L a cd :: outer).filterMap (·.frame))) (envOf name scope L a cd :: outer) :=
    (funFrames_hide K'.frames hin).of_keeps fun b o hb _ => ⟨o, hx.keeps b o hb, rfl⟩
  have hBG : ∀ b o, h.get? b = some o → b ∉ (envOf name scope L a cd :: outer).filterMap (·.frame) → (hideAll h ((envOf name scope L a cd :: outer).filterMap (·.frame))).get? b = some o := fun b o q nm => hideAll_get _ q nm
  have hsm : h.UpToSlots s'.heap := Heap.UpToSlots.of_keeps hx.keeps
  generalize hBd : hideAll h ((envOf name scope L a cd :: outer).filterMap (·.frame)) = B at *
  have first : ∀ (Q₁ : Unit → Shared → Prop), (∀ h', Heap.LeftW B (envOf name scope L a cd :: outer) e (.type X) t s'.heap h' → Q₁ () { s' with heap := h' }) →
      wpAny (model prog w) (A₀.deeper (envOf name scope L a cd)) (noteFrame (.ref e) (envOf name scope L a cd)) (fun _ s₂ => wpAny (model prog w) (A₀.deeper (envOf name scope L a cd)) (setFlight (.ref e) none) Q₁ E s₂) E s' := by
    intro Q₁ hq
    have hf : (envOf name scope L a cd).frame = some L := rfl
    unfold noteFrame
    simp only [hf]
    refine wpAny_bind (wpAny_field he hdat (x := .none) rfl ?_)
    rw [if_neg (by decide)]
    refine wpAny_newEntryW (a0 := t) (Around.frames_deeper K.stack) hff rfl he sub hen hdat (Nat.lt_of_sub_pos (by show 0 < 6 - 1; decide)) rfl fun h' hl => hq h' ?_
    rw [hc] at hl
    exact hl
  refine first _ fun h₅ hleft => ?_
  obtain ⟨l1, l2, l3, hsm₅⟩ := hleft
  have hheld : Heap.FlyingW B (envOf name scope L a cd :: outer) e (.type X) t h₅ := ⟨l1, hen, l2, l3⟩
  obtain ⟨g₅, T₅, F₅, K₅⟩ := kts_ground K F hBG hheld.1 (hsm.trans hsm₅)
  have X₅ : KF.In g₅ := XB.keeps K₅.stays
  have P₅ : TopRead p loose mg mb g₅ := topRead_of (TB.keeps K₅.stays)
  obtain ⟨ob', hob, hobc⟩ := hheld.there
  refine wpAny_handleBy_builtin (X := X) (T := T') (b := true) hexc hnt hsub (name_B F₅ X₅ P₅ ex hv hn' ⟨rfl, ⟨ob', hob, hobc⟩, ?_⟩ hk hxk hd)
  refine lands_againW hheld fun h₆ hfl₆ hsm₆ => ?_
  obtain ⟨g₆, T₆, F₆, K₆⟩ := kts_ground K F hBG hfl₆.1 ((hsm.trans hsm₅).trans hsm₆)
  have Nl : News g₆ L h₆ news := fun q hq => by
    have hb : B.get? q.1 = some q.2 := hBG _ _ (N q hq).1 fun hm => by
      rcases kts_mem hm with z | z
      · exact (N q hq).2.1 z
      · obtain ⟨_, o, ho, _⟩ := K.frames.mem z
        rw [(N q hq).2.2] at ho
        cases ho
    exact ⟨hfl₆.1 _ _ hb, (N q hq).2.1, T₆.none_ _ (N q hq).2.2⟩
  have X₆ : KF.In g₆ := XB.keeps K₆.stays
  have P₆ : Top p loose mean mg mb g₆ := TB.keeps K₆.stays
  have D₆ : KtsDicts (outer.filterMap (·.frame)) g₆ := D.turn T₆
  exact wpAny_passesOwnAt hE (k h₆ g₆ (T0.trans T₆) F₆ Nl K₆ X₆ P₆ D₆)
theorem raise_listStr {cls : String} {msg : Str} {α : Type} {M : Model} {A : Around} {E : Value → Shared → Prop} {s : Shared} {Q : α → Shared → Prop} (hp : PlainExc cls) (hh : A.handled = none) (hm : msg.length ≤ sizeLine)
    (h : ∀ h' tk e, Heap.NewExc s.heap h' e cls → E (.ref e) { s with heap := h', toks := tk }) : wpAny M A (Builtin.List.listRaiseStr cls msg : Sem α) Q E s := by
  unfold Builtin.List.listRaiseStr
  refine wpAny_bind (wpAny_mkStr (wpAny_bind ?_) hm)
  unfold newExc newTuple
  refine wpAny_bind (wpAny_newObj_type ?_)
  refine wpAny_bind (m := firstArgMember _ _) (wpAny_of_eq (a := Value.none) (by simp only [firstArgMember, hp.first]; rfl) ?_)
  rw [hp.own]
  refine wpAny_newObj_type ?_
  unfold raiseNew
  refine wpAny_bind (wpAny_handled ?_)
  rw [hh]
  first
    | refine wpAny_throw ?_
    | refine wpAny_bind (wpAny_pure (wpAny_throw ?_))
  exact h _ _ _ ⟨fun b o hb => Heap.get?_push_of_some _ (Heap.get?_push_of_some _ hb), Heap.get?_none_of_le (by simp), _, .ref s.heap.objs.size, Heap.get?_push_size _ rfl, rfl, by simp⟩
theorem absent_loop (l : Addr) (items : Array Value) (n : Nat) (y : Str) (u : Tok) (he : ∀ z, z ∈ items → EqGives z (.str y u) false) (upto : Int) (hupto : (items.size : Int) < upto) (hy : (reprText y).length ≤ 100) (k : Nat) :
    ∀ i : Nat, items.size - i = k → i ≤ items.size → Meets (Builtin.«list.index.loop» ⟨[.ref l, .str y u, rawInt i, rawInt upto], []⟩)
      (fun A R s => s.heap.get? l = some { cls := .type "list", dict := none, data := .seq items n, slots := #[] } ∧ raisesNew "ValueError" A R s) := by
  induction k with
  | zero =>
    intro i hk hij
    refine Meets.of_wp fun prog w A R s h => ?_
    obtain ⟨hl, h⟩ := h
    have hi : (if (i : Int) < upto then items[((i : Nat) : Int).toNat]? else none) = none := by
      have : items.size ≤ i := by lia
      simp [this]
    unfold Builtin.«list.index.loop»
    refine wpAny_bind (m := Builtin.List.listItems (.ref l)) ?_
    refine wpAny_bind (m := seqItems? (.ref l)) (wpAny_bind (wpAny_load hl (wpAny_pure (wpAny_pure ?_))))
    rw [hi]
    refine wpAny_bind (wpAny_rule ?_)
    have hsz : sizeLine = 16777216 := sizeLine_eq
    refine wpAny_bind (wpAny_pyRepr_str ?_ (Nat.le_trans hy (by rw [hsz]; decide)))
    obtain ⟨h1, h2⟩ := h
    have h1' : A.in1.handled = none := h1
    have hm : (reprText y ++ Str.ofString " is not in list").length ≤ sizeLine := by
      have e : (reprText y ++ Str.ofString " is not in list").length = (reprText y).length + 15 := Array.size_append
      rw [e, hsz]
      exact Nat.le_trans (Nat.add_le_add_right hy 15) (by decide)
    refine raise_listStr (α := PySem.Fin) ?a ?b ?c ?d
    case a => exact plainExc_ValueError
    case b => exact h1'
    case c => exact hm
    intro h' tk e hx
    exact h2 h' tk e hx
  | succ k ih =>
    intro i hk hij prog w A R s h
    obtain ⟨hl, h⟩ := h
    have hlt : i < items.size := by lia
    have hi : (if (i : Int) < upto then items[((i : Nat) : Int).toNat]? else none) = some items[i] := by
      have : (i : Int) < upto := by lia
      simp [hlt, this]
    unfold Builtin.«list.index.loop»
    refine wpAny_bind (m := Builtin.List.listItems (.ref l)) ?_
    refine wpAny_bind (m := seqItems? (.ref l)) (wpAny_bind (wpAny_load hl (wpAny_pure (wpAny_pure ?_))))
    rw [hi]
    refine wpAny_bind (he _ (Array.getElem_mem hlt) prog w _ _ _ _ ?_)
    refine wpAny_ite_false (by simp) ?_
    have hc : ((i : Int) + 1) = ((i + 1 : Nat) : Int) := by push_cast; rfl
    rw [hc]
    refine wpAny_pure ?_
    exact ⟨plainId_quiet plain_index_loop _, codeAny_builtin entry_index_loop (by
      rw [Around.under_plainId plain_index_loop _]
      exact ih (i + 1) (by lia) (by lia) prog w A R _ ⟨hl, h⟩)⟩
theorem index_absent (l : Addr) (items : Array Value) (n : Nat) (y : Str) (u : Tok) (he : ∀ z, z ∈ items → EqGives z (.str y u) false) (hsz : items.size ≤ 1000) (hy : (reprText y).length ≤ 100) : Meets (Builtin.«list.index» ⟨[.ref l, .str y u], []⟩)
      (fun A R s => s.heap.get? l = some { cls := .type "list", dict := none, data := .seq items n, slots := #[] } ∧ raisesNew "ValueError" A R s) := by
  intro prog w A R s h
  obtain ⟨hp, g, d, tk, os⟩ := s; obtain ⟨hl, h⟩ := h
  wp_walk using wpAny_loadPart' hl
  have a1 : ((fun i : Int => if i < 0 then max 0 (i + (items.size : Int)) else i) ((none : Option Int).getD 0)) = ((0 : Nat) : Int) := by simp
  have a2 : ((fun i : Int => if i < 0 then max 0 (i + (items.size : Int)) else i) ((none : Option Int).getD (2 ^ 63 - 1))) = 2 ^ 63 - 1 := by simp
  rw [a1, a2]
  exact ⟨plainId_quiet plain_index_loop _, codeAny_builtin entry_index_loop (by
    rw [Around.under_plainId plain_index_loop _]
    exact absent_loop l items n y u he (2 ^ 63 - 1) (by lia) hy _ 0 rfl (Nat.zero_le _) prog w A R _ ⟨hl, h⟩)⟩
/-- a list of texts stands at a, each with a letter ahead -/
def wordsOk (K : Frag) (a : Addr) : Bool := match K.lookup a with
  | some ⟨.type c, none, .seq xs _, sl⟩ => decide (c = "list") && decide (sl.size = 0) && decide (xs.size ≤ 1000) && xs.toList.all fun v => match v with
    | .str s _ => (match s.cps[0]? with | some c => decide (97 ≤ c) | none => false)
    | _ => false
  | _ => false
def figHead (y : Str) : Bool := match y.cps[0]? with | some c => decide (c < 97) | none => true
theorem call_absent {A : Around} {s : Shared} {Q E : Value → Shared → Prop} {K : Frag} {l : Addr} {y : Str} {u : Tok} (ok : wordsOk K l = true) (hK : K.In s.heap) (hy : figHead y = true) (hr : (reprText y).length ≤ 100) (hh : A.handled = none)
    (h : ∀ h' tk e, Heap.NewExc s.heap h' e "ValueError" → E (.ref e) { s with heap := h', toks := tk }) : wpAny (model prog w) A (call (.builtin "list.index") [.ref l, .str y u]) Q E s := by
  unfold wordsOk at ok
  split at ok
  · rename_i c xs n sl ho
    simp only [Bool.and_eq_true, decide_eq_true_eq] at ok
    obtain ⟨⟨⟨rfl, hsl⟩, hsz⟩, hall⟩ := ok
    have hsl' : sl = #[] := Array.eq_empty_of_size_eq_zero hsl
    subst hsl'
    have hg := hK _ _ ho
    refine call_meets PySem.F.slot_list_index ⟨_, hg, rfl⟩ PySem.F.entry_list_index (PySem.F.args_list_index_2 _ _) (index_absent l xs n y u (fun z hz => ?_) hsz hr) ⟨hg, hh, h⟩
    have hz' := List.all_eq_true.mp hall z (by simpa using hz)
    split at hz'
    · rename_i s' t'
      have hne : (s' == y) = false := by
        rw [beq_eq_false_iff_ne]
        rintro rfl
        unfold figHead at hy
        split at hy
        · rename_i c hc
          rw [hc] at hz'
          simp at hy hz'
          lia
        · rename_i hc
          rw [hc] at hz'
          cases hz'
      have := eqGives_str s' y t' u
      rwa [hne] at this
    · cases hz'
  · cases ok
end
/-- a claim of the def at f that needs n frames, and that may make the frames ready -/
abbrev ClS (n : Nat) (w : World) (mean : ExcName → Option Value) (mg mb : Str → Option Value) (f : Addr) (pre : Prop) (vs : List Value) (R : Tok → Value) : Prop :=
  ∀ (dp un : Nat) (gd : Option (List Code)) (cn : Str) (cs : Scope) (a : Addr) (ccd : Value) (outer : List Env) (A₀ : Around) (base h₀ : Heap) (L : Addr) (m : Str → Option Value) (s : Shared) (Q E : Value → Shared → Prop) (news : List (Addr × Obj)),
    Below A₀ base outer h₀ → Fr h₀ L s.heap m → (mk.heap_1 w.params).In h₀ → News h₀ L s.heap news → Top vw (looseW vw lse) mean mg mb h₀ → (mk.heap_1 w.params).In base → Top vw (looseW vw lse) mean mg mb base → KtsDicts (outer.filterMap (·.frame)) h₀ → cs.kind = .function →
    pre → dp + n < recursionLimit → un + 8 * n < cLine →
    (∀ (t : Tok) (h' : Heap) (tk' : Nat) (h₀' : Heap), KtsTurn (outer.filterMap (·.frame)) h₀ h₀' → Fr h₀' L h' m → News h₀' L h' news → Below A₀ base outer h₀' → (mk.heap_1 w.params).In h₀' → Top vw (looseW vw lse) mean mg mb h₀' → KtsDicts (outer.filterMap (·.frame)) h₀' → Q (R t) { s with heap := h', toks := tk' }) →
      wpAny (model PySem.Challenge.rw_ko0035_01.row.prog w) (ktrTop dp un gd cn cs L a ccd [] outer) (call (.ref f) vs) Q E s
/-- a clock's part: a text, or nought -/
def hv (o : Option Str) (t : Tok) : Value := match o with
  | none => .int 0 t
  | some y => .str y t
inductive NumR : Option Str → Int → Prop
  | none : NumR none 0
  | some {y : Str} {n : Int} : PySem.intText? y = some n → y.length ≤ 640 → NumR (some y) n
theorem int_hv {prog : Program} {w : World} {A : Around} {E : Value → Shared → Prop} {s : Shared} {Q : Value → Shared → Prop} {o : Option Str} {t : Tok} {n : Int} (hn : NumR o n) (h : ∀ tk t', Q (.int n t') { s with toks := tk }) :
    wpAny (model prog w) A (call (.type "int") [hv o t]) Q E s := by
  cases hn with
  | none => exact call_int_int (h s.toks t)
  | some h1 h2 => exact KIN.call_text h1 h2 (h _ _)
end Mine
end
section
set_option maxRecDepth 100000
set_option maxHeartbeats 1000000
namespace Mine
open PySem PySem.W PyProof.Rows PySem.Spec PySem.Calls
def tzOf (o : Option Str) : Str := match o with
  | none => Str.ofString "UTC"
  | some z => z
theorem words_ok (P : Params) : wordsOk (mk.heap_1 P) 79 = true := by kernel_rfl
theorem get_index {K : Frag} {a : Addr} {pl : Sem Bool} {prog : Program} {w : World} {A : Around} {E : Value → Shared → Prop} {s : Shared} {h₀ : Heap} {Lo : Addr} {m : Str → Option Value} {Q : Value × List Value → Shared → Prop} (ok : wordsOk K a = true) (hK : K.In h₀) (F : Fr h₀ Lo s.heap m) (h : Q (.builtin "list.index", [.ref a]) s) : wpAny (model prog w) A (getMethod (.ref a) "index" pl) Q E s := by
  have hK' : K.In s.heap := hK.keeps F.keep
  unfold wordsOk at ok
  split at ok
  · rename_i c xs n sl ho
    simp only [Bool.and_eq_true, decide_eq_true_eq] at ok
    obtain ⟨⟨⟨rfl, _⟩, _⟩, _⟩ := ok
    exact getMethod_ref (hK' _ _ ho) rfl rfl list_getattribute canon_list_getattribute list_getattr_none PySem.F.slot_list_index.lookup PySem.F.type_list_index h
  · cases ok
local macro_rules | `(tactic| walk_at "execs cons") => `(tactic| (k_here; (try dsimp only); k_gentoks))
local macro_rules | `(tactic| walk_at "getMethod ref") => `(tactic| (k_here; k_dflt (refine' get_index (K := mk.heap_1 _) ?o ?X ?F ?_; (case o => exact words_ok _); (case X => k_asm); (case F => k_asm))))
local macro_rules | `(tactic| walk_at "call builtin:str.upper") => `(tactic| (k_here; (refine SCL.upper (by omega) ?_); intro _))
local macro_rules | `(tactic| walk_at "call builtin:str.lower") => `(tactic| (k_here; (refine KXs.lower_K (by assumption) (by omega) ?_); intro _ _))
local macro_rules | `(tactic| walk_at "call builtin:list.index") => `(tactic| (k_here; refine thaw ?_))
local macro_rules | `(tactic| walk_at "call ref") => `(tactic| (k_here; refine thaw ?_))
local macro_rules | `(tactic| walk_at "call type:int") => `(tactic| (k_here; (with_reducible refine int_hv (by assumption) ?_); intro _ _))
local macro_rules | `(tactic| walk_at "exec If") => `(tactic| (k_here; (fail_if_success (with_reducible show wpAny _ _ _ (fun _ _ => wpAny _ _ halt _ _ _) _ _)); (first | (with_reducible show wpAny _ _ (exec (Stmt.If _ _ _ ⟨62, _, _, _⟩) _) _ _ _) | (with_reducible show wpAny _ _ (exec (Stmt.If _ _ _ ⟨64, _, _, _⟩) _) _ _ _) | (with_reducible show wpAny _ _ (exec (Stmt.If _ _ _ ⟨66, _, _, _⟩) _) _ _ _) | (with_reducible show wpAny _ _ (exec (Stmt.If _ _ _ ⟨85, _, _, _⟩) _) _ _ _)); refine thaw ?_))
theorem c_str2time (w : World) (mean : ExcName → Option Value) (mg mb : Str → Option Value) (sd sm sy : Str) (td tm ty th tmi ts tz : Tok) (oh omi os oz : Option Str) (d mo y h mi sc : Int) (o : Option Int) :
    ClS 3 w mean mg mb 116 (PySem.intText? sd = some d ∧ sd.length ≤ 640 ∧ PySem.intText? sm = some mo ∧ sm.length ≤ 640 ∧ PySem.intText? sy = some y ∧ sy.length ≤ 640 ∧ 1000 ≤ y ∧ y < 10000 ∧ KXs.Still sm ∧ figHead sm = true ∧ (reprText sm).length ≤ 100 ∧
      NumR oh h ∧ NumR omi mi ∧ NumR os sc ∧ (oz = none ∧ o = some 0 ∨ ∃ z, oz = some z ∧ z.length ≤ 60 ∧ (Txt.upper z).length ≤ 60 ∧ OffR (Txt.upper z) o)) [.str sd td, .str sm tm, .str sy ty, gval oh th, gval omi tmi, gval os ts, gval oz tz] (fun t => if InDay y mo d h mi sc then (match o with | some o => .int (secs y mo d h mi sc - o) t | none => .none) else .none) := by
  dsimp only [ClS]
  k_fill
  intros
  rename_i hpre hd hu hret
  obtain ⟨id1, ld, im, lm, iy, ly, y0, y1, hst, hfig, hrep, nh, nmi, ns, hz⟩ := hpre
  refine wpAny_call ?_
  k_dflt (refine' code_defS ?k1 ?k2 ?k3 ?k4 ?k5 ?XB ?TB ?D ?T0 ?kA ?k6 ?k7 ?k8 ?k9 ?kB ?_ ?cK ?c2 ?c3 ?c4 ?c5; (case kA => exact rfl); (case k2 => k_asm); (case k1 => k_asm); (case XB => assumption); (case TB => assumption); (case D => assumption); (case T0 => exact KtsTurn.refl); (case k3 => k_asm); (case k4 => k_asm); (case k5 => k_asm); (case k6 => k_is); (case k7 => k_is); (case k8 => ktr_room); (case k9 => exact BindsTo.of_eq rfl); (case kB => exact locs rfl); (case cK => assumption); (case c2 => exact rfl); (case c3 => exact rfl); (case c4 => exact rfl); (case c5 => decide); k_whole; intro g' L' h' FG' F' N' B' X' T' D'; (try dsimp only); (try k_lift B'); (try k_fold))
  k_steps
  refine melt ?_
  k_dflt (refine' call_absent (K := mk.heap_1 w.params) ?ok ?X ?y ?r ?hh ?_)
  case ok => exact words_ok _
  case X => exact Frag.In.keeps (by k_asm) (Fr.keep (by k_asm))
  case y => exact hfig
  case r => exact hrep
  case hh => exact rfl
  intro h' tk e hx
  dsimp only
  k_dflt (refine' caught_new (KF := mk.heap_1 w.params) (X := "ValueError") (T' := "ValueError") hx ?F ?N ?K ?XB ?TB ?D ?T0 ?ex PyProof.Rows.Boot.«ValueError» ?hn PySem.F.isExc_ValueError PySem.F.notTuple_ValueError ?hs ?_; (case F => assumption); (case N => assumption); (case K => assumption); (case XB => assumption); (case TB => assumption); (case D => assumption); (case T0 => exact KtsTurn.refl); (case ex => k_is); (case hn => decide); (case hs => (rw [isSubtype_type]; kernel_rfl)); k_whole)
  intro h' g' T' F' N' K' X' P' D'
  (try k_lift K')
  (try k_sweep)
  k_steps
  rotate_left
  · have hz : ¬ InDay y mo d h mi sc := by intro ⟨q1, q2, q3, q4, q5, q6, q7, q8, q9, q10, q11⟩; first | contradiction | lia
    simp only [if_neg hz] at hret
    exact hret 0 _ _ _ (by assumption) (by assumption) (by assumption) (by assumption) (by assumption) (by assumption) (by assumption)
  · have hz : ¬ InDay y mo d h mi sc := by intro ⟨q1, q2, q3, q4, q5, q6, q7, q8, q9, q10, q11⟩; first | contradiction | lia
    simp only [if_neg hz] at hret
    exact hret 0 _ _ _ (by assumption) (by assumption) (by assumption) (by assumption) (by assumption) (by assumption) (by assumption)
  refine melt ?_
  k_dflt (refine' cut_if (Str.ofString "hr") (hv oh) ?F0 ?N0 ?c0a ?c0b)
  case F0 => k_asm
  case N0 => k_asm
  case c0a =>
    clear hz hret
    cases nh with
    | none =>
      dsimp only [gval] at *
      k_steps
      exact halted (cutIf_set (by assumption) (by assumption))
    | some e1 e2 =>
      dsimp only [gval] at *
      k_steps
      exact halted (cutIf_same _ rfl (by assumption) (by assumption))
  intro h1 tk1 tv1 F1 N1
  dsimp only
  k_steps
  refine melt ?_
  k_dflt (refine' cut_if (Str.ofString "min") (hv omi) ?F1 ?N1 ?c1a ?c1b)
  case F1 => k_asm
  case N1 => k_asm
  case c1a =>
    clear hz hret
    cases nmi with
    | none =>
      dsimp only [gval] at *
      k_steps
      exact halted (cutIf_set (by assumption) (by assumption))
    | some e1 e2 =>
      dsimp only [gval] at *
      k_steps
      exact halted (cutIf_same _ rfl (by assumption) (by assumption))
  intro h1 tk1 tv1 F1 N1
  dsimp only
  k_steps
  refine melt ?_
  k_dflt (refine' cut_if (Str.ofString "sec") (hv os) ?F2 ?N2 ?c2a ?c2b)
  case F2 => k_asm
  case N2 => k_asm
  case c2a =>
    clear hz hret
    cases ns with
    | none =>
      dsimp only [gval] at *
      k_steps
      exact halted (cutIf_set (by assumption) (by assumption))
    | some e1 e2 =>
      dsimp only [gval] at *
      k_steps
      exact halted (cutIf_same _ rfl (by assumption) (by assumption))
  intro h1 tk1 tv1 F1 N1
  dsimp only
  k_steps
  refine melt ?_
  have hCb := c__timegm w mean mg mb
  dsimp only [Cl, CbRet] at hCb
  k_dflt (refine' hCb _ _ _ _ _ _ _ _ _ _ _ _ _ _ _ _ _ _ _ _ _ _ _ _ _ _ _ _ _ _ _ _ _ ?k1 ?k2 ?k3 ?k4 ?k5 ?kK ?kp ?kd ?ku ?kR; clear hCb; (case k1 => k_asm); (case k2 => k_asm); (case k3 => k_asm); (case k4 => (refine' cb_push ?n1 ?n2; (case n1 => k_asm); (case n2 => k_mem))); (case k5 => k_asm); (case kK => first | exact rfl | assumption); (case kp => omega); (case kd => ktr_room); (case ku => ktr_units))
  intro t9 h9 tk9 F9 N9
  replace N9 := cb_tail N9
  (try dsimp only)
  (try k_fold)
  by_cases hin : InDay y mo d h mi sc
  · rw [if_pos hin]
    simp only [if_pos hin] at hret
    k_steps
    refine melt ?_
    k_dflt (refine' cut_if (Str.ofString "tz") (fun t => .str (tzOf oz) t) ?Fz ?Nz ?c9a ?c9b)
    case Fz => k_asm
    case Nz => k_asm
    case c9a =>
      clear hz hret
      cases oz with
      | none =>
        dsimp only [gval] at *
        k_steps
        exact halted (cutIf_set (by assumption) (by assumption))
      | some z =>
        dsimp only [gval] at *
        k_steps
        exact halted (cutIf_same _ rfl (by assumption) (by assumption))
    intro h1 tk1 tv1 F1 N1
    dsimp only
    have hzz : (tzOf oz).length ≤ 60 ∧ (Txt.upper (tzOf oz)).length ≤ 60 ∧ OffR (Txt.upper (tzOf oz)) o := by
      rcases hz with ⟨e1, e2⟩ | ⟨z, e1, h1, h2, h3⟩
      · rw [e1, e2]; exact ⟨by decide +kernel, by decide +kernel, .utc (by decide +kernel)⟩
      · rw [e1]; exact ⟨h1, h2, h3⟩
    clear hz
    generalize (tzOf oz) = zz at *
    obtain ⟨hz1, hz2, hz3⟩ := hzz
    k_steps
    refine melt ?_
    have hCc := c_off w mean mg mb
    dsimp only [Cl, CbRet] at hCc
    k_dflt (refine' hCc _ _ _ o _ _ _ _ _ _ _ _ _ _ _ _ _ _ _ _ _ ?ok1 ?ok2 ?ok3 ?ok4 ?ok5 ?okK ?okp ?okd ?oku ?okR; clear hCc; (case ok1 => k_asm); (case ok2 => k_asm); (case ok3 => k_asm); (case ok4 => k_asm); (case ok5 => k_asm); (case okK => first | exact rfl | assumption); (case okp => exact ⟨hz2, hz3⟩); (case okd => ktr_room); (case oku => ktr_units))
    intro t9 h9 tk9 F9 N9
    (try dsimp only)
    (try k_fold)
    cases o with
    | none =>
      dsimp only at hret ⊢
      k_steps
      exact hret 0 _ _ _ (by assumption) (by assumption) (by first | assumption | (refine cb_drop (by assumption) ?_; kcj_all)) (by assumption) (by assumption) (by assumption) (by assumption)
    | some i =>
      dsimp only at hret ⊢
      k_steps
      exact hret _ _ _ _ (by assumption) (by assumption) (by first | assumption | (refine cb_drop (by assumption) ?_; kcj_all)) (by assumption) (by assumption) (by assumption) (by assumption)
  · rw [if_neg hin]
    simp only [if_neg hin] at hret
    k_steps
    exact hret 0 _ _ _ (by assumption) (by assumption) (by first | assumption | (refine cb_drop (by assumption) ?_; kcj_all)) (by assumption) (by assumption) (by assumption) (by assumption)
end Mine
end
section
set_option maxRecDepth 100000
set_option maxHeartbeats 1000000
namespace Mine
open PySem PySem.W PyProof.Rows PySem.Spec PySem.Calls
theorem call_groups8 {prog : Program} {w : World} {A : Around} {E : Value → Shared → Prop} {s : Shared} {h₀ : Heap} {Lo : Addr} {m : Str → Option Value} {news : List (Addr × Obj)} {Q : Value → Shared → Prop} {P D1 D2 : Addr} {x : Str} {t : Tok} {lim : Nat} {st en li : Int} {L : Rx.Marks} {g0 g1 g2 g3 g4 g5 g6 g7 : Option Str}
    (e0 : gtext x L 0 = g0) (e1 : gtext x L 1 = g1) (e2 : gtext x L 2 = g2) (e3 : gtext x L 3 = g3) (e4 : gtext x L 4 = g4) (e5 : gtext x L 5 = g5) (e6 : gtext x L 6 = g6) (e7 : gtext x L 7 = g7) (hx : x.cps.size ≤ 100)
    (F : Fr h₀ Lo s.heap m) (N : News h₀ Lo s.heap news) (hm : (D2, matO P x t lim li D1) ∈ news) (ht : (D1, tupO 8 L st en) ∈ news)
    (h : ∀ D h' tk t0 t1 t2 t3 t4 t5 t6 t7, Fr h₀ Lo h' m → News h₀ Lo h' ((D, ({ cls := .type "tuple", data := .seq [gval g0 t0, gval g1 t1, gval g2 t2, gval g3 t3, gval g4 t4, gval g5 t5, gval g6 t6, gval g7 t7].toArray } : Obj)) :: news) → (∀ p ∈ news, p.1 < D) → Q (.ref D) { s with heap := h', toks := tk }) :
    wpAny (model prog w) A (call (.builtin "re.Match.groups") [.ref D2]) Q E s := by
  subst e0 e1 e2 e3 e4 e5 e6 e7
  exact call_groups (by decide) hx F N hm ht fun D h' tk tv F' N' l1 => h D h' tk (tv 0) (tv 1) (tv 2) (tv 3) (tv 4) (tv 5) (tv 6) (tv 7) F' N' l1
abbrev StrPre (sd sm sy : Str) (oh omi os oz : Option Str) (d mo y h mi sc : Int) (o : Option Int) : Prop := PySem.intText? sd = some d ∧ sd.length ≤ 640 ∧ PySem.intText? sm = some mo ∧ sm.length ≤ 640 ∧ PySem.intText? sy = some y ∧ sy.length ≤ 640 ∧ 1000 ≤ y ∧ y < 10000 ∧ KXs.Still sm ∧ figHead sm = true ∧ (reprText sm).length ≤ 100 ∧
      NumR oh h ∧ NumR omi mi ∧ NumR os sc ∧ (oz = none ∧ o = some 0 ∨ ∃ z, oz = some z ∧ z.length ≤ 60 ∧ (Txt.upper z).length ≤ 60 ∧ OffR (Txt.upper z) o)
/-- what the day, the clock and the zone say together -/
def dayV (y mo d h mi sc : Int) (o : Option Int) : Option Int := if InDay y mo d h mi sc then (match o with | some o => some (secs y mo d h mi sc - o) | none => none) else none
inductive IsoR (x : Str) : Option Int → Prop
  | no : Rx.found Rx.iso 6 x.cps = none → IsoR x none
  | yes {L : Rx.Marks} {sd sm sy : Str} {oh omi os oz : Option Str} {d mo y h mi sc : Int} {o : Option Int} : Rx.found Rx.iso 6 x.cps = some L → sane 8 L = true → gtext x L 0 = some sy → gtext x L 1 = some sm → gtext x L 2 = some sd → gtext x L 3 = oh → gtext x L 4 = omi → gtext x L 5 = os → gtext x L 6 = oz →
      StrPre sd sm sy oh omi os oz d mo y h mi sc o → IsoR x (dayV y mo d h mi sc o)
theorem IsoR.is_no {x : Str} {r : Option Int} (h : IsoR x r) (e : Rx.found Rx.iso 6 x.cps = none) : r = none := by
  cases h with
  | no _ => rfl
  | yes h => rw [e] at h; cases h
theorem IsoR.is_yes {x : Str} {r : Option Int} {L : Rx.Marks} (h : IsoR x r) (e : Rx.found Rx.iso 6 x.cps = some L) : sane 8 L = true ∧ ∃ sd sm sy oh omi os oz d mo y h mi sc o, gtext x L 0 = some sy ∧ gtext x L 1 = some sm ∧ gtext x L 2 = some sd ∧ gtext x L 3 = oh ∧ gtext x L 4 = omi ∧ gtext x L 5 = os ∧ gtext x L 6 = oz ∧
      StrPre sd sm sy oh omi os oz d mo y h mi sc o ∧ r = dayV y mo d h mi sc o := by
  cases h with
  | no h => rw [e] at h; cases h
  | yes h1 h2 a0 a1 a2 a3 a4 a5 a6 p => rw [e] at h1; cases h1; exact ⟨h2, _, _, _, _, _, _, _, _, _, _, _, _, _, _, a0, a1, a2, a3, a4, a5, a6, p, rfl⟩
local macro_rules | `(tactic| walk_at "execs cons") => `(tactic| (k_here; (try dsimp only); k_gentoks))
local macro_rules | `(tactic| walk_at "binaryOp Mult ref int") => `(tactic| (k_here; (with_reducible show wpAny _ _ (binaryOp Operator.Mult (Value.ref _) (Value.int _ _)) _ _ _); k_dflt (refine' KMa.mul (vs := [Value.none]) (ws := [Value.none, Value.none, Value.none, Value.none, Value.none, Value.none, Value.none]) ?F ?N ?l ?lo ?hi ?z ?e ?_; (case F => k_asm); (case N => k_asm); (case l => is_list); (case lo => first | omega | decide); (case hi => first | omega | decide); (case z => decide); (case e => rfl); k_whole); intro D' h' F' N' l1; (try k_lt l1); (try k_sweep)))
local macro_rules | `(tactic| walk_at "getMethod ref") => `(tactic| (k_here; k_dflt (first | (refine' get_search (K := mk.heap_1 _) (g := 8) ?o ?X ?F ?_; (case o => exact Rx.iso_pat _); (case X => k_asm); (case F => k_asm)) | (refine' get_groups ?N ?l ?_; (case N => k_asm); (case l => k_mem)))))
local macro_rules | `(tactic| walk_at "call builtin:str.lstrip") => `(tactic| (k_here; (refine SCL.lstrip (hsz := ?hsz) ?_); (case hsz => (refine Nat.le_trans (by assumption) ?_; rw [sizeLine_eq]; decide)); intro _ _ _))
local macro_rules | `(tactic| walk_at "call builtin:re.Pattern.search") => `(tactic| (k_here; refine thaw ?_))
local macro_rules | `(tactic| walk_at "call builtin:re.Match.groups") => `(tactic| (k_here; refine thaw ?_))
local macro_rules | `(tactic| walk_at "call ref") => `(tactic| (k_here; refine thaw ?_))
theorem c_iso (w : World) (mean : ExcName → Option Value) (mg mb : Str → Option Value) (x : Str) (t : Tok) (r : Option Int) :
    ClS 4 w mean mg mb 128 (x.length ≤ 60 ∧ IsoR (Txt.lstrip x) r) [.str x t] (fun t => resV r t) := by
  dsimp only [ClS]
  k_fill
  intros
  rename_i hpre hd hu hret
  obtain ⟨hx, hr⟩ := hpre
  refine wpAny_call ?_
  k_dflt (refine' code_defS ?k1 ?k2 ?k3 ?k4 ?k5 ?XB ?TB ?D ?T0 ?kA ?k6 ?k7 ?k8 ?k9 ?kB ?_ ?cK ?c2 ?c3 ?c4 ?c5; (case kA => exact rfl); (case k2 => k_asm); (case k1 => k_asm); (case XB => assumption); (case TB => assumption); (case D => assumption); (case T0 => exact KtsTurn.refl); (case k3 => k_asm); (case k4 => k_asm); (case k5 => k_asm); (case k6 => k_is); (case k7 => k_is); (case k8 => ktr_room); (case k9 => exact BindsTo.of_eq rfl); (case kB => exact locs rfl); (case cK => assumption); (case c2 => exact rfl); (case c3 => exact rfl); (case c4 => exact rfl); (case c5 => decide); k_whole; intro g' L' h' FG' F' N' B' X' T' D'; (try dsimp only); (try k_lift B'); (try k_fold))
  k_steps
  refine melt ?_
  rename (_ ≤ x.length) => hl
  have hy : (Txt.lstrip x).length ≤ 60 := Nat.le_trans hl hx
  generalize Txt.lstrip x = y at *
  k_dflt (refine' call_search (K := mk.heap_1 w.params) (g := 8) ?o ?X ?e ?g ?x ?F ?N ?hn ?hy)
  case o => exact Rx.iso_pat _
  case X => k_asm
  case e => exact Rx.iso_ends _ (Nat.le_trans hy (by decide))
  case g => decide
  case x => exact Nat.le_trans hy (by decide)
  case F => k_asm
  case N => k_asm
  case hn =>
    intro hf
    have e := hr.is_no hf
    subst e
    k_steps
    exact hret 0 _ _ _ KtsTurn.refl (by assumption) (by first | assumption | (refine cb_drop (by assumption) ?_; kcj_all)) (by assumption) (by assumption) (by assumption) (by assumption)
  case hy =>
    intro L hf
    obtain ⟨hsane, sd, sm, sy, oh, omi, os, oz, d, mo, yy, h, mi, sc, o, e0, e1, e2, e3, e4, e5, e6, hp, e⟩ := hr.is_yes hf
    subst e
    refine ⟨hsane, ?_⟩
    intro D1 D2 h' st en li F' N' l1 l2 l3
    k_steps
    refine melt ?_
    k_dflt (refine' call_groups8 e0 e1 e2 e3 e4 e5 e6 rfl ?x2 ?F2 ?N2 ?m2 ?t2 ?_)
    case x2 => exact Nat.le_trans hy (by decide)
    case F2 => k_asm
    case N2 => k_asm
    case m2 => k_mem
    case t2 => k_mem
    intro D h' tk t0 t1 t2 t3 t4 t5 t6 t7 F' N' l1
    (try k_lt l1)
    (try k_sweep)
    k_steps
    refine melt ?_
    have hCb := c_str2time w mean mg mb
    dsimp only [ClS] at hCb
    k_dflt (refine' hCb _ _ _ _ _ _ _ _ _ _ _ _ _ _ _ _ _ _ _ _ _ _ _ _ _ _ _ _ _ _ _ _ _ _ _ _ _ _ ?k1 ?k2 ?k3 ?k4 ?k5 ?kXB ?kTB ?kD ?kK ?kp ?kd ?ku ?kR; clear hCb; (case k1 => k_asm); (case k2 => k_asm); (case k3 => k_asm); (case k4 => k_asm); (case k5 => k_asm); (case kXB => assumption); (case kTB => assumption); (case kD => assumption); (case kK => first | exact rfl | assumption); (case kp => exact hp); (case kd => ktr_room); (case ku => ktr_units))
    intro t9 h9 tk9 g9 T9 F9 N9 B9 X9 P9 D9
    (try k_lift B9)
    (try dsimp only)
    (try k_fold)
    k_steps
    by_cases hin : InDay yy mo d h mi sc
    · rw [if_pos hin]
      unfold dayV at hret
      rw [if_pos hin] at hret
      cases o with
      | none => exact hret 0 _ _ _ (by assumption) (by assumption) (by first | assumption | (refine cb_drop (by assumption) ?_; kcj_all)) (by assumption) (by assumption) (by assumption) (by assumption)
      | some i => exact hret _ _ _ _ (by assumption) (by assumption) (by first | assumption | (refine cb_drop (by assumption) ?_; kcj_all)) (by assumption) (by assumption) (by assumption) (by assumption)
    · rw [if_neg hin]
      unfold dayV at hret
      rw [if_neg hin] at hret
      exact hret 0 _ _ _ (by assumption) (by assumption) (by first | assumption | (refine cb_drop (by assumption) ?_; kcj_all)) (by assumption) (by assumption) (by assumption) (by assumption)
end Mine
end
section
namespace Mine
open PySem PySem.W
abbrev fx (ns : List Int) (i : Int) : Int := ns.getD (Int.toNat i) 0
def yearV (ns : List Int) : Int := (fx ns 1 + 970).fmod 9000 + 1000
def monthV (ns : List Int) : Int := (fx ns 2 + 1).fmod 14
def dayOf (ns : List Int) : Int := (fx ns 3 + 1).fmod 34
def sepT (i : Int) : Str := [Str.ofString "", Str.ofString "-", Str.ofString "/", Str.ofString "."].getD i.toNat Str.empty
def preT (i : Int) : Str := [Str.ofString "", Str.ofString " ", Str.ofString "\n ", Str.ofString "x "].getD i.toNat Str.empty
def postT (i : Int) : Str := [Str.ofString "", Str.ofString " ", Str.ofString "\t \n", Str.ofString " x"].getD i.toNat Str.empty
def oneV (ns : List Int) : Str := sepT ((fx ns 0).fmod 4)
def twoV (ns : List Int) : Str := sepT (((fx ns 0).fdiv 4).fmod 4)
def numS (n : Int) : Str := Str.ofString (toString n)
/-- one figure, or two -/
def figs (b : Bool) (n : Int) : Str := if b then numS n else two n
def b117 (ns : List Int) : Bool := (twoV ns != Str.ofString "") && decide (((fx ns 2).fdiv 14).fmod 2 = 1)
def b118 (ns : List Int) : Bool := decide (((fx ns 3).fdiv 34).fmod 2 = 1)
def t116 (ns : List Int) : Str := preT (((fx ns 0).fdiv 16).fmod 4) ++ numS (yearV ns) ++ oneV ns
def t117 (ns : List Int) : Str := t116 ns ++ figs (b117 ns) (monthV ns) ++ twoV ns
def t118 (ns : List Int) : Str := t117 ns ++ figs (b118 ns) (dayOf ns)
def mode (ns : List Int) : Int := (fx ns 4).fmod 3
def colV (ns : List Int) : Str := [Str.ofString ":", Str.ofString ""].getD (((fx ns 4).fdiv 3).fmod 2).toNat Str.empty
def col2V (ns : List Int) : Str := [Str.ofString ":", Str.ofString ""].getD (((fx ns 4).fdiv 6).fmod 2).toNat Str.empty
def sepC (ns : List Int) : Str := [Str.ofString " ", Str.ofString "T", Str.ofString "t", Str.ofString "-", Str.ofString ":", Str.ofString " \t"].getD (((fx ns 4).fdiv 12).fmod 6).toNat Str.empty
def b125 (ns : List Int) : Bool := (colV ns == Str.ofString ":") && decide (((fx ns 5).fdiv 27).fmod 2 = 1)
def hour0 (ns : List Int) : Int := (fx ns 5).fmod 27
def min0 (ns : List Int) : Int := (fx ns 6).fmod 62
def sec0 (ns : List Int) : Int := (fx ns 7).fmod 64
def t124 (ns : List Int) : Str := t118 ns ++ sepC ns
def t125 (ns : List Int) : Str := t124 ns ++ figs (b125 ns) (hour0 ns)
def t126 (ns : List Int) : Str := t125 ns ++ colV ns ++ two (min0 ns)
def s127 (ns : List Int) : Int := if mode ns = 2 then 0 else sec0 ns
def t128 (ns : List Int) : Str := t126 ns ++ (if mode ns = 2 then Str.ofString "" else col2V ns ++ two (s127 ns))
def tClock (ns : List Int) : Str := if mode ns = 1 then t118 ns else t128 ns
def hourV (ns : List Int) : Int := if mode ns = 1 then 0 else hour0 ns
def minV (ns : List Int) : Int := if mode ns = 1 then 0 else min0 ns
def secV (ns : List Int) : Int := if mode ns = 1 then 0 else s127 ns
def zoneV (ns : List Int) : Int := (fx ns 8).fmod 12
def hours0 (ns : List Int) : Int := ((fx ns 8).fdiv 12).fmod 100
def mins0 (ns : List Int) : Int := ((fx ns 8).fdiv 1200).fmod 100
/-- a figure of a list -/
def inL (l : List Int) (z : Int) : Bool := l.any fun x => x == z
def hoursV (ns : List Int) : Int := if zoneV ns < 3 then 0 else if inL [9, 10] (zoneV ns) = true then (hours0 ns).fmod 10 else hours0 ns
def minsV (ns : List Int) : Int := if inL [0, 1, 2, 6, 7, 9] (zoneV ns) = true then 0 else mins0 ns
def bareV (ns : List Int) : Str := if mode ns = 0 then Str.ofString " " else Str.ofString " +"
def dashV (ns : List Int) : Str := if mode ns ≠ 1 ∧ ((fx ns 8).fdiv 120000).fmod 2 = 1 then Str.ofString "-" else Str.ofString " -"
def signT (ns : List Int) : Str := [Str.ofString "", Str.ofString "Z", Str.ofString " \tz", Str.ofString "+", dashV ns, dashV ns, Str.ofString "+", Str.ofString "+", dashV ns, dashV ns, dashV ns, bareV ns].getD (zoneV ns).toNat Str.empty
def midT (ns : List Int) : Str := [Str.ofString "", Str.ofString "", Str.ofString "", Str.ofString "", Str.ofString "", Str.ofString ":", Str.ofString "", Str.ofString ":", Str.ofString "::", Str.ofString "", Str.ofString ":", Str.ofString ""].getD (zoneV ns).toNat Str.empty
def hT (ns : List Int) : Str := if zoneV ns < 3 then Str.ofString "" else if inL [9, 10] (zoneV ns) = true then numS (hoursV ns) else two (hoursV ns)
def mT (ns : List Int) : Str := if inL [3, 4, 5, 8, 10, 11] (zoneV ns) = true then two (minsV ns) else Str.ofString ""
def t134 (ns : List Int) : Str := tClock ns ++ signT ns
def t135 (ns : List Int) : Str := t134 ns ++ hT ns
def t136 (ns : List Int) : Str := t135 ns ++ midT ns
def t137 (ns : List Int) : Str := t136 ns ++ mT ns
def t138 (ns : List Int) : Str := t137 ns ++ postT (((fx ns 0).fdiv 64).fmod 4)
/-- the due answer: none for what no date is -/
def badDay (ns : List Int) : Bool := decide (¬ (1 ≤ dayOf ns ∧ dayOf ns ≤ 31) ∨ ¬ (1 ≤ monthV ns ∧ monthV ns ≤ 12) ∨ yearV ns < 1970 ∨ zoneV ns = 8)
def three (ns : List Int) : Bool := inL [(fx ns 0).fmod 4, ((fx ns 0).fdiv 4).fmod 4, ((fx ns 0).fdiv 16).fmod 4, ((fx ns 0).fdiv 64).fmod 4] 3
def badClock (ns : List Int) : Bool := decide (hourV ns > 24 ∨ minV ns > 59 ∨ secV ns > 61) || three ns
def offV (ns : List Int) : Int := (if inL [4, 5, 9, 10] (zoneV ns) = true then -1 else 1) * (hoursV ns * 60 + minsV ns)
def dueI (ns : List Int) : Int := ((daysV (yearV ns) (monthV ns) - daysV 1970 1 + dayOf ns - 1) * 1440 + hourV ns * 60 + minV ns - offV ns) * 60 + secV ns
def dueV (ns : List Int) : Option Int := if badDay ns then none else if badClock ns then none else some (dueI ns)
section
variable {ns : List Int}
theorem s127_bd : 0 ≤ s127 ns ∧ s127 ns < 64 := by
  unfold s127
  split
  · decide
  · exact ⟨by unfold sec0; rw [Int.fmod_eq_emod_of_nonneg _ (by decide)]; lia, by unfold sec0; rw [Int.fmod_eq_emod_of_nonneg _ (by decide)]; lia⟩
theorem app_len (a b : Str) : (a ++ b).length = a.length + b.length := Array.size_append
theorem two_len (n : Int) : (two n).length ≤ 2 := Nat.le_refl _
theorem tab_len {l : List Str} {i : Nat} (h : (l.all fun s => decide (s.length ≤ 4)) = true) : (l.getD i Str.empty).length ≤ 4 := by
  rw [List.getD_eq_getElem?_getD]
  cases e : l[i]? with
  | none => exact Nat.zero_le _
  | some s => exact of_decide_eq_true (List.all_eq_true.mp h s (List.mem_of_getElem? e))
theorem numS_len {n : Int} (h0 : 0 ≤ n) (h1 : n < 10 ^ 10) : (numS n).length ≤ 10 := KT.len_num h0 h1
theorem figs_len {b : Bool} {n : Int} (h0 : 0 ≤ n) (h1 : n < 10 ^ 10) : (figs b n).length ≤ 10 := by
  unfold figs
  split
  · exact numS_len h0 h1
  · exact Nat.le_trans (two_len n) (by decide)
theorem mod_lo (a : Int) {b : Int} (h : 0 < b) : 0 ≤ a.fmod b := by rw [Int.fmod_eq_emod_of_nonneg _ (by lia)]; exact Int.emod_nonneg _ (by lia)
theorem mod_hi (a : Int) {b : Int} (h : 0 < b) : a.fmod b < b := by rw [Int.fmod_eq_emod_of_nonneg _ (by lia)]; exact Int.emod_lt_of_pos _ h
theorem t116_len : (t116 ns).length ≤ 18 := by
  have h1 := mod_lo (fx ns 1 + 970) (b := 9000) (by decide)
  have h2 := mod_hi (fx ns 1 + 970) (b := 9000) (by decide)
  have a : (preT (((fx ns 0).fdiv 16).fmod 4)).length ≤ 4 := tab_len (by decide +kernel)
  have b : (numS (yearV ns)).length ≤ 10 := numS_len (by unfold yearV; lia) (by unfold yearV; lia)
  have c : (oneV ns).length ≤ 4 := tab_len (by decide +kernel)
  unfold t116
  rw [app_len, app_len]
  lia
theorem t117_len : (t117 ns).length ≤ 32 := by
  have a := t116_len (ns := ns)
  have b : (figs (b117 ns) (monthV ns)).length ≤ 10 := figs_len (mod_lo _ (by decide)) (Int.lt_of_lt_of_le (mod_hi _ (by decide)) (by decide))
  have c : (twoV ns).length ≤ 4 := tab_len (by decide +kernel)
  unfold t117
  rw [app_len, app_len]
  lia
theorem t118_len : (t118 ns).length ≤ 42 := by
  have a := t117_len (ns := ns)
  have b : (figs (b118 ns) (dayOf ns)).length ≤ 10 := figs_len (mod_lo _ (by decide)) (Int.lt_of_lt_of_le (mod_hi _ (by decide)) (by decide))
  unfold t118
  rw [app_len]
  lia
theorem t124_len : (t124 ns).length ≤ 46 := by
  have a := t118_len (ns := ns)
  have c : (sepC ns).length ≤ 4 := tab_len (by decide +kernel)
  unfold t124
  rw [app_len]
  lia
theorem t125_len : (t125 ns).length ≤ 56 := by
  have a := t124_len (ns := ns)
  have b : (figs (b125 ns) (hour0 ns)).length ≤ 10 := figs_len (mod_lo _ (by decide)) (Int.lt_of_lt_of_le (mod_hi _ (by decide)) (by decide))
  unfold t125
  rw [app_len]
  lia
theorem t126_len : (t126 ns).length ≤ 62 := by
  have a := t125_len (ns := ns)
  have c : (colV ns).length ≤ 4 := tab_len (by decide +kernel)
  unfold t126
  rw [app_len, app_len]
  have := two_len (min0 ns)
  lia
theorem t128_len : (t128 ns).length ≤ 68 := by
  have a := t126_len (ns := ns)
  have c : (col2V ns).length ≤ 4 := tab_len (by decide +kernel)
  have d := two_len (s127 ns)
  unfold t128
  rw [app_len]
  split
  · have e : (Str.ofString "").length = 0 := rfl
    lia
  · rw [app_len]
    lia
theorem tClock_len : (tClock ns).length ≤ 68 := by
  have a := t128_len (ns := ns)
  have b := t118_len (ns := ns)
  unfold tClock
  split <;> lia
theorem hours0_bd : 0 ≤ hours0 ns ∧ hours0 ns < 100 := ⟨mod_lo _ (by decide), mod_hi _ (by decide)⟩
theorem hoursV_bd : 0 ≤ hoursV ns ∧ hoursV ns < 100 := by
  have h := hours0_bd (ns := ns)
  have a := mod_lo (hours0 ns) (b := 10) (by decide)
  have b := mod_hi (hours0 ns) (b := 10) (by decide)
  unfold hoursV
  split
  · decide
  · split <;> lia
theorem minsV_bd : 0 ≤ minsV ns ∧ minsV ns < 100 := by
  unfold minsV
  split
  · decide
  · exact ⟨mod_lo _ (by decide), mod_hi _ (by decide)⟩
theorem minV_bd : 0 ≤ minV ns ∧ minV ns < 62 := by
  unfold minV
  split
  · decide
  · exact ⟨mod_lo _ (by decide), mod_hi _ (by decide)⟩
theorem hourV_bd : 0 ≤ hourV ns ∧ hourV ns < 27 := by
  unfold hourV
  split
  · decide
  · exact ⟨mod_lo _ (by decide), mod_hi _ (by decide)⟩
theorem secV_bd : 0 ≤ secV ns ∧ secV ns < 64 := by
  unfold secV
  split
  · decide
  · exact s127_bd
theorem dash_len : (dashV ns).length ≤ 4 := by unfold dashV; split <;> decide +kernel
theorem bare_len : (bareV ns).length ≤ 4 := by unfold bareV; split <;> decide +kernel
theorem sign_len : (signT ns).length ≤ 4 := by
  unfold signT
  refine tab_len ?_
  simp only [List.all_cons, List.all_nil, Bool.and_true]
  have a := decide_eq_true (dash_len (ns := ns))
  have b := decide_eq_true (bare_len (ns := ns))
  rw [a, b]
  decide +kernel
theorem t134_len : (t134 ns).length ≤ 72 := by
  have a := tClock_len (ns := ns)
  have b := sign_len (ns := ns)
  unfold t134
  rw [app_len]
  lia
theorem t135_len : (t135 ns).length ≤ 82 := by
  have a := t134_len (ns := ns)
  have b := hoursV_bd (ns := ns)
  have c : (hT ns).length ≤ 10 := by
    unfold hT
    split
    · decide +kernel
    · split
      · exact numS_len b.1 (by lia)
      · exact Nat.le_trans (two_len _) (by decide)
  unfold t135
  rw [app_len]
  lia
theorem t136_len : (t136 ns).length ≤ 86 := by
  have a := t135_len (ns := ns)
  have c : (midT ns).length ≤ 4 := tab_len (by decide +kernel)
  unfold t136
  rw [app_len]
  lia
theorem t137_len : (t137 ns).length ≤ 88 := by
  have a := t136_len (ns := ns)
  have c : (mT ns).length ≤ 2 := by
    unfold mT
    split
    · exact two_len _
    · decide +kernel
  unfold t137
  rw [app_len]
  lia
theorem good_day (h : badDay ns = false) : (1 ≤ dayOf ns ∧ dayOf ns ≤ 31) ∧ (1 ≤ monthV ns ∧ monthV ns ≤ 12) ∧ 1970 ≤ yearV ns ∧ zoneV ns ≠ 8 := by
  have := of_decide_eq_false h
  exact ⟨Decidable.not_not.mp fun q => this (Or.inl q), Decidable.not_not.mp fun q => this (Or.inr (Or.inl q)), Int.not_lt.mp fun q => this (Or.inr (Or.inr (Or.inl q))), fun q => this (Or.inr (Or.inr (Or.inr q)))⟩
theorem year_hi : yearV ns < 10000 := by
  have := mod_hi (fx ns 1 + 970) (b := 9000) (by decide)
  unfold yearV
  lia
theorem v141 : inL ((rangeKs 0 (4 - 0 : Int).toNat).map fun k => ((fx ns 0).fdiv ((4 : Int) ^ k.toNat)).fmod 4) 3 = three ns := by
  have e : ((rangeKs 0 (4 - 0 : Int).toNat).map fun k => ((fx ns 0).fdiv ((4 : Int) ^ k.toNat)).fmod 4) = [((fx ns 0).fdiv 1).fmod 4, ((fx ns 0).fdiv 4).fmod 4, ((fx ns 0).fdiv 16).fmod 4, ((fx ns 0).fdiv 64).fmod 4] := rfl
  rw [e, Int.fdiv_one]
  rfl
theorem pow4_ne {k : Int} (h0 : 0 ≤ k) (h1 : k < 0 + ((4 - 0 : Int).toNat : Int)) : (4 : Int) ^ k.toNat ≠ 0 := Int.pow_ne_zero (by decide)
theorem pow4_small {k : Int} (h0 : 0 ≤ k) (h1 : k < 0 + ((4 - 0 : Int).toNat : Int)) : ((4 : Int) ^ k.toNat).natAbs < 1073741824 := by
  have h1' : k < 4 := h1
  have : k = 0 ∨ k = 1 ∨ k = 2 ∨ k = 3 := by lia
  rcases this with rfl | rfl | rfl | rfl <;> decide
end
end Mine
end
section
set_option maxRecDepth 100000
namespace Mine
open PySem PySem.W PyProof.Rows PySem.Spec PySem.Calls
abbrev ClD (w : World) (mean : ExcName → Option Value) (mg mb : Str → Option Value) (news : List (Addr × Obj)) (l : Addr) (vs : List Value) (ns : List Int) (c : Nat) : Prop :=
  ∀ (dp un : Nat) (gd : Option (List Code)) (cn : Str) (cs : Scope) (a : Addr) (ccd : Value) (cl : List (Str × Addr)) (outer : List Env) (A₀ : Around) (base h₀ : Heap) (L : Addr) (m : Str → Option Value) (s : Shared) (Q E : Value → Shared → Prop),
    Below A₀ base outer h₀ → Fr h₀ L s.heap m → (mk.heap_1 w.params).In h₀ → News h₀ L s.heap ((l, listOf vs.toArray c) :: news) → Top vw (looseW vw lse) mean mg mb h₀ → cs.kind = .function →
    dp + 3 < recursionLimit → un + 8 * 3 < cLine →
    (∀ (D : Addr) (h' : Heap) (tk' : Nat) (t1 t2 : Tok), Fr h₀ L h' m → News h₀ L h' ((D, ({ cls := .type "tuple", data := .seq [Value.str (t138 ns) t1, resV (dueV ns) t2].toArray } : Obj)) :: (l, listOf vs.toArray c) :: news) → Q (.ref D) { s with heap := h', toks := tk' }) →
      wpAny (model PySem.Challenge.rw_ko0035_01.row.prog w) (ktrTop dp un gd cn cs L a ccd cl outer) (call (.ref 147) [.ref l]) Q E s
end Mine
end
section
set_option linter.unusedVariables false
set_option maxRecDepth 100000
namespace Mine
open PySem PySem.W PyProof.Rows PySem.Spec PySem.Calls
/-- a running def: its frame, its ledger, and the world around it -/
structure Cx where
  prog : Program
  w : World
  A : Around
  nm : Str
  scope : Scope
  L : Addr
  a : Addr
  cd : Value
  g : Heap
  news : List (Addr × Obj)
  E : Value → Shared → Prop
abbrev Cx.env (K : Cx) : Env := envOfC K.nm K.scope K.L K.a K.cd
abbrev Cx.M (K : Cx) : Model := model K.prog K.w
abbrev Cx.Fr (K : Cx) (h : Heap) (m : Str → Option Value) : Prop := PyProof.Rows.Fr K.g K.L h m
abbrev Cx.Ne (K : Cx) (ex : List (Addr × Obj)) (h : Heap) : Prop := News K.g K.L h (ex ++ K.news)
/-- the expression e gives R -/
structure Cx.Ev (K : Cx) (m : Str → Option Value) (e : PySem.Expr) (R : Tok → Value) : Prop where
  run : ∀ (ex : List (Addr × Obj)) (s : Shared) (Q : Value → Shared → Prop), K.Fr s.heap m → K.Ne ex s.heap → (∀ t h' tk', K.Fr h' m → K.Ne ex h' → Q (R t) { s with heap := h', toks := tk' }) → wpAny K.M K.A (eval e K.env) Q K.E s
structure Cx.Ts (K : Cx) (m : Str → Option Value) (e : PySem.Expr) (b : Bool) : Prop where
  run : ∀ (whole : Sem Value) (ex : List (Addr × Obj)) (s : Shared) (Q : Bool → Shared → Prop), K.Fr s.heap m → K.Ne ex s.heap → (∀ h' tk', K.Fr h' m → K.Ne ex h' → Q b { s with heap := h', toks := tk' }) → wpAny K.M K.A (PySem.isTrue e K.env whole) Q K.E s
abbrev Cx.EvI (K : Cx) (m : Str → Option Value) (e : PySem.Expr) (n : Int) : Prop := K.Ev m e (Value.int n)
/-- a text of at most n signs -/
def Cx.EvS (K : Cx) (m : Str → Option Value) (e : PySem.Expr) (x : Str) (n : Nat) : Prop := K.Ev m e (Value.str x) ∧ x.length ≤ n
/-- the names that are laid, and what they stand for -/
abbrev Laid := List (Str × (Tok → Value))
def look (l : Laid) (x : Str) : Option (Tok → Value) := match l with
  | [] => none
  | p :: r => if x = p.1 then some p.2 else look r x
/-- the values of a list's elements -/
def Are : List Value → List (Tok → Value) → Prop
  | [], [] => True
  | v :: vs, R :: Rs => (∃ t, v = R t) ∧ Are vs Rs
  | _, _ => False
theorem Are.ints : ∀ {vs : List Value} {ns : List Int}, Are vs (ns.map Value.int) → IntsAre vs ns
  | [], [], _ => .nil
  | v :: vs, n :: ns, h => by
    obtain ⟨⟨t, rfl⟩, h⟩ := h
    exact .cons _ _ (Are.ints h)
  | [], _ :: _, h => h.elim
  | _ :: _, [], h => h.elim
theorem Are.strs : ∀ {vs : List Value} {ns : List Str}, Are vs (ns.map Value.str) → StrsAre vs ns
  | [], [], _ => .nil
  | v :: vs, n :: ns, h => by
    obtain ⟨⟨t, rfl⟩, h⟩ := h
    exact .cons _ _ (Are.strs h)
  | [], _ :: _, h => h.elim
  | _ :: _, [], h => h.elim
theorem Are.len : ∀ {vs : List Value} {Rs : List (Tok → Value)}, Are vs Rs → vs.length = Rs.length
  | [], [], _ => rfl
  | _ :: _, _ :: _, h => congrArg (· + 1) (Are.len h.2)
  | [], _ :: _, h => h.elim
  | _ :: _, [], h => h.elim
theorem Are.more {vs : List Value} {R : Tok → Value} {Rs : List (Tok → Value)} (h : Are vs (R :: Rs)) : ∃ t vs', vs = R t :: vs' ∧ Are vs' Rs := by
  cases vs with
  | nil => exact h.elim
  | cons v vs =>
    obtain ⟨⟨t, e⟩, h⟩ := h
    exact ⟨t, vs, by rw [e], h⟩
theorem Are.e0 {vs : List Value} (h : Are vs []) : vs = [] := by
  cases vs with
  | nil => rfl
  | cons v vs => exact h.elim
theorem Are.e1 {vs : List Value} {R1 : Tok → Value} (h : Are vs [R1]) : ∃ t1, vs = [R1 t1] := by
  obtain ⟨t1, vs, rfl, h2⟩ := h.more
  exact ⟨t1, by rw [h2.e0]⟩
theorem Are.e2 {vs : List Value} {R1 R2 : Tok → Value} (h : Are vs [R1, R2]) : ∃ t1 t2, vs = [R1 t1, R2 t2] := by
  obtain ⟨t1, vs, rfl, h2⟩ := h.more
  obtain ⟨t2, rfl⟩ := h2.e1
  exact ⟨t1, t2, rfl⟩
theorem Are.e3 {vs : List Value} {R1 R2 R3 : Tok → Value} (h : Are vs [R1, R2, R3]) : ∃ t1 t2 t3, vs = [R1 t1, R2 t2, R3 t3] := by
  obtain ⟨t1, vs, rfl, h2⟩ := h.more
  obtain ⟨t2, t3, rfl⟩ := h2.e2
  exact ⟨t1, t2, t3, rfl⟩
structure Cx.Els (K : Cx) (m : Str → Option Value) (es : List PySem.Expr) (Rs : List (Tok → Value)) : Prop where
  run : ∀ (pos : Pos) (ex : List (Addr × Obj)) (s : Shared) (Q : List Value → Shared → Prop), K.Fr s.heap m → K.Ne ex s.heap → (∀ vs h' tk', Are vs Rs → K.Fr h' m → K.Ne ex h' → Q vs { s with heap := h', toks := tk' }) → wpAny K.M K.A (spliced (backTo pos (starEach es K.env))) Q K.E s
abbrev Cx.ElI (K : Cx) (m : Str → Option Value) (es : List PySem.Expr) (ns : List Int) : Prop := K.Els m es (ns.map Value.int)
abbrev Cx.ElS (K : Cx) (m : Str → Option Value) (es : List PySem.Expr) (ns : List Str) : Prop := K.Els m es (ns.map Value.str)
/-- what the def's frame stands on -/
structure Cx.Ok (K : Cx) (names : List Str) : Prop where
  hk : K.scope.kind = .function
  loc : ∀ x ∈ names, K.env.kindOf x = some .local ∧ (x == ("__debug__" : Str)) = false
  hA : K.A.handled = none
def Cx.Has (K : Cx) (names : List Str) (m : Str → Option Value) (l : Laid) : Prop := K.Ok names ∧ ∀ x R, look l x = some R → ∃ t, m x = some (R t)
section
variable {K : Cx} {m : Str → Option Value} {l : Laid} {names : List Str} {e e1 e2 e3 : PySem.Expr} {pos p1 p2 p3 : Pos} {a b i : Int} {x y : Str} {k n : Nat} {R : Tok → Value} {c d : Bool} {es : List PySem.Expr}
theorem Ev.name (H : K.Has names m l) (hl : x ∈ names) (h : look l x = some R) : K.Ev m (.Name x pos) R := .mk fun ex s Q F N k => by
  obtain ⟨t, ht⟩ := H.2 x R h
  exact ldLoc F ht (k t s.heap s.toks F N) H.1.hk (H.1.loc x hl).1 (H.1.loc x hl).2
theorem Ev.int : K.EvI m (.Constant (.int a) k pos) a := .mk fun ex s Q F N h => wpAny_Constant_int (h _ _ _ F N)
theorem Ev.none : K.Ev m (.Constant .none k pos) (fun _ => .none) := .mk fun ex s Q F N h => Constant_none (h 0 _ _ F N)
theorem Ev.str (hx : x.length ≤ n) : K.EvS m (.Constant (.str x) k pos) x n := ⟨.mk fun ex s Q F N h => Constant_str (h _ _ _ F N), hx⟩
theorem Ev.bin {op : Operator} {Ra Rb R : Tok → Value} (h1 : K.Ev m e1 Ra) (h2 : K.Ev m e2 Rb)
    (h : ∀ (s : Shared) (Q : Value → Shared → Prop) (t u : Tok), (∀ t' tk', Q (R t') { s with toks := tk' }) → wpAny K.M K.A (binaryOp op (Ra t) (Rb u)) Q K.E s) : K.Ev m (.BinOp e1 op e2 pos) R := .mk fun ex s Q F N k =>
  wpAny_BinOp (h1.run ex s _ F N fun t h1 _ F1 N1 => h2.run ex _ _ F1 N1 fun u h2 _ F2 N2 => h _ _ t u fun t' tk' => k t' h2 tk' F2 N2)
theorem Ev.add (h1 : K.EvI m e1 a) (h2 : K.EvI m e2 b) : K.EvI m (.BinOp e1 .Add e2 pos) (a + b) := Ev.bin h1 h2 fun s Q t u h => add_int (h _ _)
theorem Ev.sub (h1 : K.EvI m e1 a) (h2 : K.EvI m e2 b) : K.EvI m (.BinOp e1 .Sub e2 pos) (a - b) := Ev.bin h1 h2 fun s Q t u h => sub_int (h _ _)
theorem Ev.mul (h1 : K.EvI m e1 a) (h2 : K.EvI m e2 b) (hm : IntMulOk a b) : K.EvI m (.BinOp e1 .Mult e2 pos) (a * b) := Ev.bin h1 h2 fun s Q t u h => mul_int (h _ _) hm
theorem Ev.mod (h1 : K.EvI m e1 a) (h2 : K.EvI m e2 b) (hb : b ≠ 0) : K.EvI m (.BinOp e1 .Mod e2 pos) (a.fmod b) := Ev.bin h1 h2 fun s Q t u h => mod_int' hb (h _ _)
theorem Ev.fdiv (h1 : K.EvI m e1 a) (h2 : K.EvI m e2 b) (hb : b ≠ 0 ∧ b.natAbs < 1073741824) : K.EvI m (.BinOp e1 .FloorDiv e2 pos) (a.fdiv b) := Ev.bin h1 h2 fun s Q t u h => floordiv_int hb.1 (h _ _) (Or.inl (PyProof.noPylong_small hb.2))
theorem Ev.neg1 (h1 : K.EvI m e1 1) : K.EvI m (.UnaryOp .USub e1 pos) (-1) := .mk fun ex s Q F N k => UnaryOp_ (h1.run ex s _ F N fun t h' tk' F' N' => neg_int (k _ _ _ F' N'))
theorem Ev.cat (h1 : K.EvS m e1 x k) (h2 : K.EvS m e2 y n) (hs : k + n ≤ 16777216) : K.EvS m (.BinOp e1 .Add e2 pos) (x ++ y) (k + n) :=
  ⟨Ev.bin h1.1 h2.1 fun s Q t u h => KXadd.add h1.2 h2.2 hs fun t' k' _ => h t' k', by rw [app_len]; exact Nat.add_le_add h1.2 h2.2⟩
theorem EvS.name (H : K.Has names m l) (hl : x ∈ names) (h : look l x = some (Value.str y)) (hn : y.length ≤ n) : K.EvS m (.Name x pos) y n := ⟨Ev.name H hl h, hn⟩
theorem Ev.ite {Rc Rd : Tok → Value} (ht : K.Ts m e1 c) (h1 : c = true → K.Ev m e2 Rc) (h2 : c = false → K.Ev m e3 Rd) : K.Ev m (.IfExp e1 e2 e3 pos) (bif c then Rc else Rd) := .mk fun ex s Q F N k =>
  IfExp_ (ht.run _ ex s _ F N fun h' tk' F' N' => by
    cases c with
    | true => exact (if_pos rfl).mpr ((h1 rfl).run ex _ _ F' N' k)
    | false => exact (if_neg Bool.false_ne_true).mpr ((h2 rfl).run ex _ _ F' N' k))
theorem Ev.iteI (ht : K.Ts m e1 c) (h1 : c = true → K.EvI m e2 a) (h2 : c = false → K.EvI m e3 b) : K.EvI m (.IfExp e1 e2 e3 pos) (if c = true then a else b) := by
  have := Ev.ite (pos := pos) ht h1 h2
  cases c <;> exact this
theorem Ev.iteS (ht : K.Ts m e1 c) (h1 : c = true → K.EvS m e2 x k) (h2 : c = false → K.EvS m e3 y k) : K.EvS m (.IfExp e1 e2 e3 pos) (if c = true then x else y) k := by
  have := Ev.ite (pos := pos) ht (fun h => (h1 h).1) (fun h => (h2 h).1)
  cases c
  · exact ⟨this, (h2 rfl).2⟩
  · exact ⟨this, (h1 rfl).2⟩
theorem EvS.le (h : K.EvS m e x k) (hk : k ≤ n) : K.EvS m e x n := ⟨h.1, Nat.le_trans h.2 hk⟩
/-- lists -/
theorem Els.nil : K.Els m [] [] := .mk fun pos ex s Q F N h => spliced_none (h [] _ _ trivial F N)
theorem Els.cons {Rs : List (Tok → Value)} (h1 : K.Ev m e R) (h2 : K.Els m es Rs) (he : starEach (e :: es) K.env = (false, eval e K.env) :: starEach es K.env) : K.Els m (e :: es) (R :: Rs) := .mk fun pos ex s Q F N h =>
  spliced_more (h1.run ex s _ F N fun t h' tk' F' N' => h2.run pos ex _ _ F' N' fun vs h'' tk'' a F'' N'' => h (R t :: vs) _ _ ⟨⟨t, rfl⟩, a⟩ F'' N'') he
theorem Ev.list {Rs : List (Tok → Value)} {ex : List (Addr × Obj)} {s : Shared} {Q : Value → Shared → Prop} (h1 : K.Els m es Rs) (hn : Rs.length ≤ 20) (F : K.Fr s.heap m) (N : K.Ne ex s.heap)
    (h : ∀ D vs h' tk', Are vs Rs → K.Fr h' m → K.Ne ((D, listOf vs.toArray 0) :: ex) h' → Q (.ref D) { s with heap := h', toks := tk' }) : wpAny K.M K.A (eval (.List es pos) K.env) Q K.E s :=
  List_ (h1.run pos ex s _ F N fun vs h' tk' a F' N' => newList_K F' N' (fun D h'' F'' N'' _ => h D vs h'' tk' a F'' N'') (by rw [a.len]; exact Nat.le_trans hn (Nat.le_of_ble_eq_true rfl)))
theorem Ev.tabS {ws : List Str} (h1 : K.ElS m es ws) (h2 : K.EvI m e2 i) (hi : 0 ≤ i ∧ i < (ws.length : Int)) (hn : ws.length ≤ 20) (hx : (ws.getD i.toNat Str.empty).length ≤ n)
    (hs : ∀ l u, subscripted e2 false (.ref l) (.int i u) = operate [.ref l, .int i u] (getItem (.ref l) (.int i u))) : K.EvS m (.Subscript (.List es p1) e2 pos) (ws.getD i.toNat Str.empty) n :=
  ⟨.mk fun ex s Q F N k => Subscript_ (Ev.list h1 (by rw [List.length_map]; exact hn) F N fun D vs h' tk' a F' N' => h2.run _ _ _ F' N' fun u h'' tk'' F'' N'' =>
    KTb.item_list (News.isList N'' (.head _)) a.strs hi.1 hi.2 (by lia) (fun t' _ => k t' _ _ F'' (cb_tail N'')) (hs _ _)), hx⟩
/-- tests -/
theorem Ts.cmp {op : CmpOp} {Ra Rb : Tok → Value} (h1 : K.Ev m e1 Ra) (h2 : K.Ev m e2 Rb)
    (h : ∀ (s : Shared) (Q : Value → Shared → Prop) (t u : Tok), Q (.bool c) s → wpAny K.M K.A (compareOp op (Ra t) (Rb u)) Q K.E s) (hb : behindInMarks op e2 = false) : K.Ts m (.Compare e1 [op] [e2] pos) c := .mk fun whole ex s Q F N k =>
  wpAny_isTrue_Compare1 (h1.run ex s _ F N fun t h1 _ F1 N1 => h2.run ex _ _ F1 N1 fun u h2 _ F2 N2 => h _ _ t u (wpAny_truthy_bool (k _ _ F2 N2))) hb
theorem Ts.eq (h1 : K.EvI m e1 a) (h2 : K.EvI m e2 b) (hb : behindInMarks .Eq e2 = false) : K.Ts m (.Compare e1 [.Eq] [e2] pos) (decide (a = b)) := Ts.cmp h1 h2 (fun s Q t u h => eq_int h) hb
theorem Ts.ne (h1 : K.EvI m e1 a) (h2 : K.EvI m e2 b) (hb : behindInMarks .NotEq e2 = false) : K.Ts m (.Compare e1 [.NotEq] [e2] pos) (a != b) := Ts.cmp h1 h2 (fun s Q t u h => ne_int h) hb
theorem Ts.lt (h1 : K.EvI m e1 a) (h2 : K.EvI m e2 b) (hb : behindInMarks .Lt e2 = false) : K.Ts m (.Compare e1 [.Lt] [e2] pos) (decide (a < b)) := Ts.cmp h1 h2 (fun s Q t u h => lt_int h) hb
theorem Ts.gt (h1 : K.EvI m e1 a) (h2 : K.EvI m e2 b) (hb : behindInMarks .Gt e2 = false) : K.Ts m (.Compare e1 [.Gt] [e2] pos) (decide (b < a)) := Ts.cmp h1 h2 (fun s Q t u h => gt_int h) hb
theorem Ts.eqS (h1 : K.EvS m e1 x k) (h2 : K.EvS m e2 y n) (hb : behindInMarks .Eq e2 = false) : K.Ts m (.Compare e1 [.Eq] [e2] pos) (x == y) := Ts.cmp h1.1 h2.1 (fun s Q t u h => PyProof.Rows.eq_str h) hb
theorem Ts.neS (h1 : K.EvS m e1 x k) (h2 : K.EvS m e2 y n) (hb : behindInMarks .NotEq e2 = false) : K.Ts m (.Compare e1 [.NotEq] [e2] pos) (x != y) := Ts.cmp h1.1 h2.1 (fun s Q t u h => PyProof.Rows.ne_str h) hb
/-- a figure of a written list -/
theorem Ts.inL {ns : List Int} (h1 : K.EvI m e1 a) (h2 : K.ElI m es ns) (hn : ns.length ≤ 20) (hb : behindInMarks .In (.List es p1) = false) : K.Ts m (.Compare e1 [.In] [.List es p1] pos) (inL ns a) := .mk fun whole ex s Q F N k =>
  wpAny_isTrue_Compare1 (h1.run ex s _ F N fun t h1 _ F1 N1 => Ev.list h2 (by rw [List.length_map]; exact hn) F1 N1 fun D vs h' tk' ar F' N' =>
    in_list_ints (News.isList N' (.head _)) ar.ints (wpAny_truthy_bool (k _ _ F' (cb_tail N')))) hb
/-- a ≤ b ≤ c -/
theorem Ts.le2 {f : Int} (h1 : K.EvI m e1 a) (h2 : K.EvI m e2 b) (h3 : K.EvI m e3 f) (hb : lastMarks [.LtE, .LtE] [e2, e3] = false) : K.Ts m (.Compare e1 [.LtE, .LtE] [e2, e3] pos) (decide (a ≤ b) && decide (b ≤ f)) := .mk fun whole ex s Q F N k =>
  isTrue_chain (h1.run ex s _ F N fun t h1 _ F1 N1 => test_link (h2.run ex _ _ F1 N1 fun u h2 _ F2 N2 => PyProof.Rows.le_int (wpAny_truthy_bool (by
    cases hc : decide (a ≤ b) with
    | false => exact (if_neg Bool.false_ne_true).mpr (by rw [hc] at k; exact k _ _ F2 N2)
    | true => exact (if_pos rfl).mpr (test_last (h3.run ex _ _ F2 N2 fun v h3 _ F3 N3 => PyProof.Rows.le_int (wpAny_truthy_bool (by rw [hc] at k; exact k _ _ F3 N3)))))))) hb
theorem Ts.and2 (h1 : K.Ts m e1 c) (h2 : c = true → K.Ts m e2 d) : K.Ts m (.BoolOp .And [e1, e2] pos) (c && d) := .mk fun whole ex s Q F N k =>
  isTrue_and (h1.run _ ex s _ F N fun h' tk' F' N' => by
    cases c with
    | false => exact (if_neg Bool.false_ne_true).mpr (k _ _ F' N')
    | true => exact (if_pos rfl).mpr (isTrue_and ((h2 rfl).run _ ex _ _ F' N' fun h'' tk'' F'' N'' => by
        cases d with
        | false => exact (if_neg Bool.false_ne_true).mpr (k _ _ F'' N'')
        | true => exact (if_pos rfl).mpr (isTrue_and_nil (k _ _ F'' N'')))))
theorem Ts.or_nil : K.Ts m (.BoolOp .Or [] pos) false := .mk fun whole ex s Q F N k => isTrue_or_nil (k _ _ F N)
theorem Ts.or (h1 : K.Ts m e1 c) (h2 : c = false → K.Ts m (.BoolOp .Or es pos) d) : K.Ts m (.BoolOp .Or (e1 :: es) pos) (c || d) := .mk fun whole ex s Q F N k =>
  isTrue_or (h1.run _ ex s _ F N fun h' tk' F' N' => by
    cases c with
    | true => exact (if_pos rfl).mpr (k _ _ F' N')
    | false => exact (if_neg Bool.false_ne_true).mpr ((h2 rfl).run _ ex _ _ F' N' k))
/-- a statement, and what it leaves laid -/
structure Cx.Do (K : Cx) (m : Str → Option Value) (st : Stmt) (P : (Str → Option Value) → Prop) : Prop where
  run : ∀ (s : Shared) (Q : Flow → Shared → Prop), K.Fr s.heap m → K.Ne [] s.heap → (∀ m' h' tk', P m' → K.Fr h' m' → K.Ne [] h' → Q .next { s with heap := h', toks := tk' }) → wpAny K.M K.A (exec st K.env) Q K.E s
structure Cx.Dos (K : Cx) (m : Str → Option Value) (sts : List Stmt) (P : (Str → Option Value) → Prop) : Prop where
  run : ∀ (s : Shared) (Q : Flow → Shared → Prop), K.Fr s.heap m → K.Ne [] s.heap → (∀ m' h' tk', P m' → K.Fr h' m' → K.Ne [] h' → Q .next { s with heap := h', toks := tk' }) → wpAny K.M K.A (execs sts K.env) Q K.E s
structure Cx.Run (K : Cx) (Q : Value → Shared → Prop) (s : Shared) (m : Str → Option Value) (sts : List Stmt) : Prop where
  run : ∀ (Q' : Flow → Shared → Prop) h tk, (∀ v s', Q v s' → Q' (.ret v) s') → K.Fr h m → K.Ne [] h → wpAny K.M K.A (execs sts K.env) Q' K.E { s with heap := h, toks := tk }
theorem Has.set {t : Tok} (H : K.Has names m l) : K.Has names (fun y => if y = x then some (R t) else m y) ((x, R) :: l) := ⟨H.1, fun y S h => by
  unfold look at h
  dsimp only at h ⊢
  split at h
  · rename_i e; cases h; exact ⟨t, if_pos e⟩
  · rename_i e; rw [if_neg e]; exact H.2 y S h⟩
theorem Do.set (H : K.Has names m l) (hx : x ∈ names) (h : K.Ev m e R) (hw : swapsWith e (some (PySem.Expr.Name x p1)) pos.line K.env = pure false) : K.Do m (.Assign [.Name x p1] e pos) fun m' => K.Has names m' ((x, R) :: l) := .mk fun s Q F N k =>
  wpAny_Assign_Name (h.run [] s _ F N fun t h' tk' F' N' => storeX_L F' N' (fun h'' F'' N'' => k _ _ _ (Has.set H) F'' N'') H.1.hk (H.1.loc x hx).1) hw
theorem Do.tup2 {x1 x2 : Str} {R1 R2 : Tok → Value} {q : Nat} {tp : Pos} (H : K.Has names m l) (hx1 : x1 ∈ names) (hx2 : x2 ∈ names) (h : K.Els m es [R1, R2])
    (hw : swapsWithSole [PySem.Expr.Tuple [.Name x1 p1, .Name x2 p2] k p3] (.Tuple es q tp) pos.line K.env = pure false) (hs : swappedStores [PySem.Expr.Tuple [.Name x1 p1, .Name x2 p2] k p3] (.Tuple es q tp) K.env = pure (some [x1, x2])) :
    K.Do m (.Assign [.Tuple [.Name x1 p1, .Name x2 p2] k p3] (.Tuple es q tp) pos) fun m' => K.Has names m' ((x1, R1) :: (x2, R2) :: l) := .mk fun s Q F N k =>
  Assign_Tuple_swapped (Tuple_ (h.run tp [] s _ F N fun vs h' tk' ar F' N' => kup_newTuple F' N' (fun D h2 F2 N2 _ => by
    obtain ⟨t1, t2, rfl⟩ := ar.e2
    exact unpackItemsN_ F2 N2 (News.isTup N2 (.head _)) H.1.hA rfl fun h3 F3 N3 =>
        assignInOrder_cons (bindName_ (storeX_L F3 N3 (fun h4 F4 N4 => assignInOrder_cons (bindName_ (storeX_L F4 N4 (fun h5 F5 N5 =>
          assignInOrder_nil (k _ _ _ (Has.set (Has.set H)) F5 (cb_tail N5))) H.1.hk (H.1.loc x1 hx1).1))) H.1.hk (H.1.loc x2 hx2).1))) (by rw [ar.len]; exact Nat.le_of_ble_eq_true rfl))) hw hs
theorem Do.tup3 {x1 x2 x3 : Str} {R1 R2 R3 : Tok → Value} {p4 : Pos} {q : Nat} {tp : Pos} (H : K.Has names m l) (hx1 : x1 ∈ names) (hx2 : x2 ∈ names) (hx3 : x3 ∈ names) (h : K.Els m es [R1, R2, R3])
    (hw : swapsWithSole [PySem.Expr.Tuple [.Name x1 p1, .Name x2 p2, .Name x3 p4] k p3] (.Tuple es q tp) pos.line K.env = pure false) (hs : swappedStores [PySem.Expr.Tuple [.Name x1 p1, .Name x2 p2, .Name x3 p4] k p3] (.Tuple es q tp) K.env = pure (some [x1, x2, x3])) :
    K.Do m (.Assign [.Tuple [.Name x1 p1, .Name x2 p2, .Name x3 p4] k p3] (.Tuple es q tp) pos) fun m' => K.Has names m' ((x1, R1) :: (x2, R2) :: (x3, R3) :: l) := .mk fun s Q F N k =>
  Assign_Tuple_swapped (Tuple_ (h.run tp [] s _ F N fun vs h' tk' ar F' N' => kup_newTuple F' N' (fun D h2 F2 N2 _ => by
    obtain ⟨t1, t2, t3, rfl⟩ := ar.e3
    exact unpackItemsN_ F2 N2 (News.isTup N2 (.head _)) H.1.hA rfl fun h3 F3 N3 =>
        assignInOrder_cons (bindName_ (storeX_L F3 N3 (fun h4 F4 N4 => assignInOrder_cons (bindName_ (storeX_L F4 N4 (fun h5 F5 N5 => assignInOrder_cons (bindName_ (storeX_L F5 N5 (fun h6 F6 N6 =>
          assignInOrder_nil (k _ _ _ (Has.set (Has.set (Has.set H))) F6 (cb_tail N6))) H.1.hk (H.1.loc x1 hx1).1))) H.1.hk (H.1.loc x2 hx2).1))) H.1.hk (H.1.loc x3 hx3).1))) (by rw [ar.len]; exact Nat.le_of_ble_eq_true rfl))) hw hs
/-- the same, all the values constants: the stores go from left to right -/
theorem Do.tup3c {x1 x2 x3 : Str} {R1 R2 R3 : Tok → Value} {p4 : Pos} {q : Nat} {tp : Pos} (H : K.Has names m l) (hx1 : x1 ∈ names) (hx2 : x2 ∈ names) (hx3 : x3 ∈ names) (h : K.Els m es [R1, R2, R3])
    (hw : swapsWithSole [PySem.Expr.Tuple [.Name x1 p1, .Name x2 p2, .Name x3 p4] k p3] (.Tuple es q tp) pos.line K.env = pure false) (hs : swappedStores [PySem.Expr.Tuple [.Name x1 p1, .Name x2 p2, .Name x3 p4] k p3] (.Tuple es q tp) K.env = pure none) :
    K.Do m (.Assign [.Tuple [.Name x1 p1, .Name x2 p2, .Name x3 p4] k p3] (.Tuple es q tp) pos) fun m' => K.Has names m' ((x3, R3) :: (x2, R2) :: (x1, R1) :: l) := .mk fun s Q F N k =>
  Assign_Tuple (Tuple_ (h.run tp [] s _ F N fun vs h' tk' ar F' N' => kup_newTuple F' N' (fun D h2 F2 N2 _ => by
    obtain ⟨t1, t2, t3, rfl⟩ := ar.e3
    exact unpackN_ F2 N2 (News.isTup N2 (.head _)) H.1.hA rfl rfl fun h3 F3 N3 =>
        assignInOrder_cons (PyProof.Rows.assign_Name (storeX_L F3 N3 (fun h4 F4 N4 => assignInOrder_cons (PyProof.Rows.assign_Name (storeX_L F4 N4 (fun h5 F5 N5 => assignInOrder_cons (PyProof.Rows.assign_Name (storeX_L F5 N5 (fun h6 F6 N6 =>
          assignInOrder_nil (k _ _ _ (Has.set (Has.set (Has.set H))) F6 (cb_tail N6))) H.1.hk (H.1.loc x3 hx3).1))) H.1.hk (H.1.loc x2 hx2).1))) H.1.hk (H.1.loc x1 hx1).1))) (by rw [ar.len]; exact Nat.le_of_ble_eq_true rfl))) hw hs
theorem Dos.nil {P : (Str → Option Value) → Prop} (h : P m) : K.Dos m [] P := .mk fun s Q F N k => wpAny_execs_nil (k _ _ _ h F N)
theorem Dos.cons {st : Stmt} {sts : List Stmt} {P1 P : (Str → Option Value) → Prop} (h1 : K.Do m st P1) (h2 : ∀ m', P1 m' → K.Dos m' sts P) : K.Dos m (st :: sts) P := .mk fun s Q F N k =>
  wpAny_execs_cons (h1.run s _ F N fun m' h' tk' p F' N' => (h2 m' p).run _ _ F' N' k)
theorem Do.ite {body orelse : List Stmt} {P : (Str → Option Value) → Prop} (ht : K.Ts m e c) (h1 : c = true → K.Dos m body P) (h2 : c = false → K.Dos m orelse P) : K.Do m (.If e body orelse pos) P := .mk fun s Q F N k =>
  wpAny_If (ht.run _ [] s _ F N fun h' tk' F' N' => by
    cases c with
    | true => exact (if_pos rfl).mpr ((h1 rfl).run _ _ F' N' k)
    | false => exact (if_neg Bool.false_ne_true).mpr ((h2 rfl).run _ _ F' N' k))
theorem Do.post {st : Stmt} {P P' : (Str → Option Value) → Prop} (h : K.Do m st P) (hp : ∀ m', P m' → P' m') : K.Do m st P' := .mk fun s Q F N k => h.run s Q F N fun m' h' tk' p => k m' h' tk' (hp m' p)
theorem Run.cons {Q : Value → Shared → Prop} {s : Shared} {st : Stmt} {sts : List Stmt} {P : (Str → Option Value) → Prop} (h1 : K.Do m st P) (h2 : ∀ m', P m' → K.Run Q s m' sts) : K.Run Q s m (st :: sts) := .mk fun Q' h tk hq F N =>
  wpAny_execs_cons (h1.run _ _ F N fun m' h' tk' p F' N' => (h2 m' p).run Q' h' tk' hq F' N')
theorem Run.ret {Q : Value → Shared → Prop} {s : Shared} {sts : List Stmt} {Rs : List (Tok → Value)} (h : K.Els m es Rs) (hn : Rs.length ≤ 20)
    (hq : ∀ vs D h' tk', Are vs Rs → K.Fr h' m → K.Ne [(D, { cls := .type "tuple", data := .seq vs.toArray })] h' → Q (.ref D) { s with heap := h', toks := tk' }) : K.Run Q s m (.Return (some (.Tuple es k p1)) pos :: sts) := .mk fun Q' h0 tk hQ F N =>
  wpAny_execs_cons (wpAny_Return_some (Tuple_ (h.run p1 [] _ _ F N fun vs h' tk' ar F' N' => kup_newTuple F' N' (fun D h2 F2 N2 _ => hQ _ _ (hq vs D h2 tk' ar F2 N2)) (by rw [ar.len]; exact Nat.le_trans hn (Nat.le_of_ble_eq_true rfl)))))
theorem Run.ifRet {Q : Value → Shared → Prop} {s : Shared} {body rest : List Stmt} (ht : K.Ts m e c) (h1 : c = true → K.Run Q s m body) (h2 : c = false → K.Run Q s m rest) : K.Run Q s m (.If e body [] pos :: rest) := .mk fun Q' h0 tk hQ F N =>
  wpAny_execs_cons (wpAny_If (ht.run _ [] _ _ F N fun h' tk' F' N' => by
    cases c with
    | true => exact (if_pos rfl).mpr ((h1 rfl).run _ _ _ hQ F' N')
    | false => exact (if_neg Bool.false_ne_true).mpr (wpAny_execs_nil ((h2 rfl).run _ _ _ hQ F' N'))))
theorem Run.go {prog : Program} {w : World} {A : Around} {nm : Str} {scope : Scope} {L a : Addr} {cd : Value} {g h : Heap} {news : List (Addr × Obj)} {E : Value → Shared → Prop} {Q' : Flow → Shared → Prop} {Q : Value → Shared → Prop} {s : Shared} {tk : Nat} {body : List Stmt}
    (r : Cx.Run ⟨prog, w, A, nm, scope, L, a, cd, g, news, E⟩ Q s m body) (hq : ∀ v s', Q v s' → Q' (.ret v) s') (F : PyProof.Rows.Fr g L h m) (N : News g L h news) : wpAny (model prog w) A (execs body (envOfC nm scope L a cd)) Q' E { s with heap := h, toks := tk } := r.run Q' h tk hq F N
/-- a call of a def by its name -/
theorem Ev.call {KF : Frag} {f : Addr} {Rs : List (Tok → Value)} (hn : K.Ev m (.Name x p1) fun _ => .ref f) (XF : KF.In K.g) (hk : keepIn KF (.ref f) = true) (h : K.Els m (e :: es) Rs) (he : starEach (e :: es) K.env = (false, eval e K.env) :: starEach es K.env)
    (hp : (backTo pos (starEach es K.env)).any (·.1) = false)
    (hc : ∀ ex s (Q : Value → Shared → Prop) vs, Are vs Rs → K.Fr s.heap m → K.Ne ex s.heap → (∀ t h' tk', K.Fr h' m → K.Ne ex h' → Q (R t) { s with heap := h', toks := tk' }) → wpAny K.M K.A (call (.ref f) vs) Q K.E s) : K.Ev m (.Call (.Name x p1) (e :: es) [] pos) R := .mk fun ex s Q F N k =>
  Call_ (hn.run ex s _ F N fun _ h' tk' F' N' => callWith_K XF hk (h.run pos ex _ _ F' N' fun vs h2 tk2 ar F2 N2 => ⟨XF.keeps F2.keep, hc ex _ _ vs ar F2 N2 k⟩) he hp)
theorem Ev.callStr (hn : K.Ev m (.Name x p1) fun _ => .type "str") (h : K.EvI m e a) (ha : 0 ≤ a ∧ a < 10 ^ 10) (he : starEach [e] K.env = (false, eval e K.env) :: starEach [] K.env) : K.EvS m (.Call (.Name x p1) [e] [] pos) (numS a) 10 :=
  ⟨.mk fun ex s Q F N k => Call_ (hn.run ex s _ F N fun _ h' tk' F' N' => PyProof.Rows.callWith_type1 (spliced_more (h.run ex _ _ F' N' fun t h2 tk2 F2 N2 => spliced_none (str_of_int_fit (N := 10 ^ 10) (by rw [if_neg (by lia)]; exact ha.2) (by decide) fun _ => k _ _ _ F2 N2)) he) he rfl), numS_len ha.1 ha.2⟩
theorem Ev.strE : K.Ev m (.Constant (.str x) k pos) (Value.str x) := .mk fun ex s Q F N h => Constant_str (h _ _ _ F N)
/-- what is laid, as far as it is still needed -/
def Sub (l : Laid) : Laid → Prop
  | [] => True
  | p :: r => look l p.1 = some p.2 ∧ Sub l r
theorem Sub.look : ∀ {l' : Laid} {x : Str} {R : Tok → Value}, Sub l l' → look l' x = some R → look l x = some R
  | [], _, _, _, h => nomatch h
  | p :: r, x, R, s, h => by
    unfold Mine.look at h
    split at h
    · rename_i e; cases h; rw [e]; exact s.1
    · exact Sub.look s.2 h
theorem Has.sub {l' : Laid} (H : K.Has names m l) (h : Sub l l') : K.Has names m l' := ⟨H.1, fun x R e => H.2 x R (h.look e)⟩
theorem Ts.not (h1 : K.Ts m e1 c) : K.Ts m (.UnaryOp .Not e1 pos) (!c) := .mk fun whole ex s Q F N k => isTrue_not (h1.run _ ex s _ F N k)
end
end Mine
end
section
set_option maxRecDepth 100000
set_option maxHeartbeats 64000000
namespace Mine
open PySem PySem.W PyProof.Rows PySem.Spec PySem.Calls
def lns : List Str := ["year", "month", "day", "one", "two", "text", "hour", "minute", "second", "colon", "zone", "hours", "minutes", "bare", "dash", "days", "offset"]
theorem in_year : (Str.ofString "year") ∈ lns := by decide +kernel
theorem in_month : (Str.ofString "month") ∈ lns := by decide +kernel
theorem in_day : (Str.ofString "day") ∈ lns := by decide +kernel
theorem in_one : (Str.ofString "one") ∈ lns := by decide +kernel
theorem in_two : (Str.ofString "two") ∈ lns := by decide +kernel
theorem in_text : (Str.ofString "text") ∈ lns := by decide +kernel
theorem in_hour : (Str.ofString "hour") ∈ lns := by decide +kernel
theorem in_minute : (Str.ofString "minute") ∈ lns := by decide +kernel
theorem in_second : (Str.ofString "second") ∈ lns := by decide +kernel
theorem in_colon : (Str.ofString "colon") ∈ lns := by decide +kernel
theorem in_zone : (Str.ofString "zone") ∈ lns := by decide +kernel
theorem in_hours : (Str.ofString "hours") ∈ lns := by decide +kernel
theorem in_minutes : (Str.ofString "minutes") ∈ lns := by decide +kernel
theorem in_bare : (Str.ofString "bare") ∈ lns := by decide +kernel
theorem in_dash : (Str.ofString "dash") ∈ lns := by decide +kernel
theorem in_days : (Str.ofString "days") ∈ lns := by decide +kernel
theorem in_offset : (Str.ofString "offset") ∈ lns := by decide +kernel
theorem lit_len {s : Str} (h : decide (s.length ≤ 4) = true) : s.length ≤ 4 := of_decide_eq_true h
section
variable {K : Cx} {m : Str → Option Value} {e e1 e2 e3 : PySem.Expr} {pos p1 p2 : Pos} {i a b : Int} {c d : Bool} {x y : Str} {k : Nat} {es : List PySem.Expr} {ws : List Str}
theorem News.sub {h₀ h : Heap} {L : Addr} {a b : List (Addr × Obj)} (N : News h₀ L h a) (hs : ∀ q ∈ b, q ∈ a) : News h₀ L h b := fun q hq => N q (hs q hq)
theorem mem_back {α : Type} {a b : α} {x y : List α} : ∀ q ∈ a :: b :: (x ++ y), q ∈ x ++ a :: b :: y := fun q hq => by
  rcases List.mem_cons.mp hq with rfl | hq
  · exact List.mem_append_right _ (.head _)
  rcases List.mem_cons.mp hq with rfl | hq
  · exact List.mem_append_right _ (.tail _ (.head _))
  rcases List.mem_append.mp hq with hq | hq
  · exact List.mem_append_left _ hq
  · exact List.mem_append_right _ (.tail _ (.tail _ hq))
theorem mem_forth {α : Type} {a b : α} {x y : List α} : ∀ q ∈ x ++ a :: b :: y, q ∈ a :: b :: (x ++ y) := fun q hq => by
  rcases List.mem_append.mp hq with hq | hq
  · exact .tail _ (.tail _ (List.mem_append_left _ hq))
  rcases List.mem_cons.mp hq with rfl | hq
  · exact .head _
  rcases List.mem_cons.mp hq with rfl | hq
  · exact .tail _ (.head _)
  · exact .tail _ (.tail _ (List.mem_append_right _ hq))
theorem Sub.cons {l l' : Laid} {R : Tok → Value} (h : Mine.look l x = some R) (r : Sub l l') : Sub l ((x, R) :: l') := ⟨h, r⟩
theorem Els.s (h : K.ElS m es ws) : K.ElS m (.Constant (.str x) k pos :: es) (x :: ws) := Els.cons Ev.strE h rfl
theorem Els.n {z : Str} (hn : K.Ev m (.Name z pos) (Value.str y)) (h : K.ElS m es ws) : K.ElS m (.Name z pos :: es) (y :: ws) := Els.cons hn h rfl
theorem Els.int {is : List Int} (h : K.ElI m es is) : K.ElI m (.Constant (.int a) k pos :: es) (a :: is) := Els.cons Ev.int h rfl
theorem Els.bin {op : Operator} {Rs : List (Tok → Value)} (h1 : K.EvI m (.BinOp e1 op e2 pos) a) (h : K.Els m es Rs) : K.Els m (.BinOp e1 op e2 pos :: es) (Value.int a :: Rs) := Els.cons h1 h rfl
theorem Els.sub {R : Tok → Value} {Rs : List (Tok → Value)} (h1 : K.Ev m (.Subscript e1 e2 pos) R) (h : K.Els m es Rs) : K.Els m (.Subscript e1 e2 pos :: es) (R :: Rs) := Els.cons h1 h rfl
theorem Els.nm {z : Str} {R : Tok → Value} {Rs : List (Tok → Value)} (h1 : K.Ev m (.Name z pos) R) (h : K.Els m es Rs) : K.Els m (.Name z pos :: es) (R :: Rs) := Els.cons h1 h rfl
theorem Els.none : K.Els m [.Constant .none k pos] [resV none] := Els.cons Ev.none Els.nil rfl
theorem Ev.sep (h1 : K.ElS m es [Str.ofString "", Str.ofString "-", Str.ofString "/", Str.ofString "."]) (h2 : K.EvI m (.BinOp e1 .Mod e2 p2) i) (hi : 0 ≤ i ∧ i < ((4 : Nat) : Int)) : K.EvS m (.Subscript (.List es p1) (.BinOp e1 .Mod e2 p2) pos) (sepT i) 4 := Ev.tabS h1 h2 hi (by decide) (tab_len (by decide +kernel)) fun _ _ => rfl
theorem Ev.pre (h1 : K.ElS m es [Str.ofString "", Str.ofString " ", Str.ofString "
 ", Str.ofString "x "]) (h2 : K.EvI m (.BinOp e1 .Mod e2 p2) i) (hi : 0 ≤ i ∧ i < ((4 : Nat) : Int)) : K.EvS m (.Subscript (.List es p1) (.BinOp e1 .Mod e2 p2) pos) (preT i) 4 := Ev.tabS h1 h2 hi (by decide) (tab_len (by decide +kernel)) fun _ _ => rfl
theorem Ev.post (h1 : K.ElS m es [Str.ofString "", Str.ofString " ", Str.ofString "	 
", Str.ofString " x"]) (h2 : K.EvI m (.BinOp e1 .Mod e2 p2) i) (hi : 0 ≤ i ∧ i < ((4 : Nat) : Int)) : K.EvS m (.Subscript (.List es p1) (.BinOp e1 .Mod e2 p2) pos) (postT i) 4 := Ev.tabS h1 h2 hi (by decide) (tab_len (by decide +kernel)) fun _ _ => rfl
theorem EvS.v (h : K.EvS m e x k) : K.Ev m e (Value.str x) := h.1
theorem Ev.iteIP {p : Prop} [Decidable p] (ht : K.Ts m e1 (decide p)) (h1 : p → K.EvI m e2 a) (h2 : ¬ p → K.EvI m e3 b) : K.EvI m (.IfExp e1 e2 e3 pos) (if p then a else b) := by
  have := Ev.iteI (pos := pos) ht (fun h => h1 (of_decide_eq_true h)) (fun h => h2 (of_decide_eq_false h))
  simp only [decide_eq_true_eq] at this
  exact this
theorem Ev.iteSP {p : Prop} [Decidable p] (ht : K.Ts m e1 (decide p)) (h1 : p → K.EvS m e2 x k) (h2 : ¬ p → K.EvS m e3 y k) : K.EvS m (.IfExp e1 e2 e3 pos) (if p then x else y) k := by
  have := Ev.iteS (pos := pos) ht (fun h => h1 (of_decide_eq_true h)) (fun h => h2 (of_decide_eq_false h))
  simp only [decide_eq_true_eq] at this
  exact this
theorem EvS.eq (h : K.EvS m e x k) (hk : x = y) : K.EvS m e y k := hk ▸ h
theorem Ts.is (h : K.Ts m e c) (hc : c = d) : K.Ts m e d := hc ▸ h
theorem idx {z : Int} {n : Int} {N : Nat} (h : 0 < n) (e : (N : Int) = n) : 0 ≤ z.fmod n ∧ z.fmod n < (N : Int) := ⟨mod_lo _ h, by rw [e]; exact mod_hi _ h⟩
theorem Do.setS {names : List Str} {l : Laid} (H : K.Has names m l) (hx : x ∈ names) (h : K.EvS m e y k) (hw : swapsWith e (some (PySem.Expr.Name x p1)) pos.line K.env = pure false) : K.Do m (.Assign [.Name x p1] e pos) fun m' => K.Has names m' ((x, Value.str y) :: l) := Do.set H hx h.1 hw
theorem Run.leave {prog : Program} {w : World} {A : Around} {nm : Str} {scope : Scope} {L a L0 : Addr} {cd : Value} {g h h₀ : Heap} {news led : List (Addr × Obj)} {E : Value → Shared → Prop} {s : Shared} {tk : Nat} {body : List Stmt} {m0 : Str → Option Value} {R : Result → Shared → Prop} {Rs : List (Tok → Value)}
    (F : PyProof.Rows.Fr g L h m) (N : News g L h news) (hsub : ∀ p ∈ led, p ∈ news)
    (hret : ∀ vs D h' tk', Are vs Rs → PyProof.Rows.Fr h₀ L0 h' m0 → News h₀ L0 h' ((D, { cls := .type "tuple", data := .seq vs.toArray }) :: led) → R (.ok (.ret (.ref D))) { s with heap := h', toks := tk' })
    (r : ∀ Q : Value → Shared → Prop, (∀ m' vs D h' tk', Are vs Rs → PyProof.Rows.Fr g L h' m' → News g L h' ((D, { cls := .type "tuple", data := .seq vs.toArray }) :: news) → Q (.ref D) { s with heap := h', toks := tk' }) → Cx.Run ⟨prog, w, A, nm, scope, L, a, cd, g, news, E⟩ Q s m body) :
    wpAny (model prog w) A (execs body (envOfC nm scope L a cd)) (fun fl s' => LeaveK h₀ L0 m0 g R (match fl with | .ret v => v | _ => .none) s') E { s with heap := h, toks := tk } :=
  (r (fun v s' => LeaveK h₀ L0 m0 g R v s') (fun m' vs D h' tk' ar F' N' => ⟨L, m', (D, { cls := .type "tuple", data := .seq vs.toArray }) :: led, F', fun q hq => N' q (by
    rcases List.mem_cons.mp hq with rfl | hq
    · exact .head _
    · exact .tail _ (hsub q hq)), fun F0 N0 => hret vs D h' tk' ar F0 N0⟩)).run _ h tk (fun v s' x => x) F N
variable {ns : List Int}
theorem year_ok : 0 ≤ yearV ns ∧ yearV ns < 10 ^ 10 := ⟨Int.add_nonneg (mod_lo _ (by decide)) (by decide), Int.lt_trans year_hi (by decide)⟩
theorem month_ok : 0 ≤ monthV ns ∧ monthV ns < 100 := ⟨mod_lo _ (by decide), Int.lt_trans (mod_hi _ (by decide)) (by decide)⟩
theorem day_ok : 0 ≤ dayOf ns ∧ dayOf ns < 100 := ⟨mod_lo _ (by decide), Int.lt_trans (mod_hi _ (by decide)) (by decide)⟩
theorem hour0_ok : 0 ≤ hour0 ns ∧ hour0 ns < 100 := ⟨mod_lo _ (by decide), Int.lt_trans (mod_hi _ (by decide)) (by decide)⟩
theorem min0_ok : 0 ≤ min0 ns ∧ min0 ns < 100 := ⟨mod_lo _ (by decide), Int.lt_trans (mod_hi _ (by decide)) (by decide)⟩
theorem s127_ok : 0 ≤ s127 ns ∧ s127 ns < 100 := ⟨s127_bd.1, Int.lt_trans s127_bd.2 (by decide)⟩
theorem wide {z : Int} (h : 0 ≤ z ∧ z < 100) : 0 ≤ z ∧ z < 10 ^ 10 := ⟨h.1, Int.lt_trans h.2 (by decide)⟩
theorem zone_ix : 0 ≤ zoneV ns ∧ zoneV ns < ((12 : Nat) : Int) := ⟨mod_lo _ (by decide), mod_hi _ (by decide)⟩
theorem dash_eq : (if ((mode ns != 1) && decide (((fx ns 8).fdiv 120000).fmod 2 = 1)) = true then Str.ofString "-" else Str.ofString " -") = dashV ns := by
  unfold dashV
  simp only [Bool.and_eq_true, bne_iff_ne, decide_eq_true_eq]
theorem bad_eq : (!(decide (1 ≤ dayOf ns) && decide (dayOf ns ≤ 31)) || (!(decide (1 ≤ monthV ns) && decide (monthV ns ≤ 12)) || (decide (yearV ns < 1970) || (decide (zoneV ns = 8) || false)))) = badDay ns := by
  unfold badDay
  rw [← Bool.decide_and, ← Bool.decide_and, ← decide_not, ← decide_not, Bool.or_false, ← Bool.decide_or, ← Bool.decide_or, ← Bool.decide_or]
theorem clk_eq : (decide (24 < hourV ns) || (decide (59 < minV ns) || (decide (61 < secV ns) || (three ns || false)))) = badClock ns := by
  unfold badClock
  rw [Bool.or_false, ← Bool.or_assoc, ← Bool.or_assoc, ← Bool.decide_or, ← Bool.decide_or]
  congr 1
  exact decide_eq_decide.mpr or_assoc
theorem sign_ok {u : Int} : IntMulOk (if inL [4, 5, 9, 10] (zoneV ns) = true then (-1 : Int) else 1) u := IntMulOk.of_left (by split <;> decide)
theorem by_1 {a b : Int} (h : Builtin.Int.intBits b ≤ 64) : IntMulOk a b := IntMulOk.of_right h
theorem clock_1 (h : mode ns = 1) : t118 ns = tClock ns ∧ (0 : Int) = secV ns ∧ (0 : Int) = minV ns ∧ (0 : Int) = hourV ns := by unfold tClock secV minV hourV; simp only [if_pos h, and_self]
theorem clock_2 (h : ¬ mode ns = 1) : t128 ns = tClock ns ∧ s127 ns = secV ns ∧ min0 ns = minV ns ∧ hour0 ns = hourV ns := by unfold tClock secV minV hourV; simp only [if_neg h, and_self]
/-- what is laid behind the clock -/
def st120 (ns : List Int) : Laid := [("text", Value.str (tClock ns)), ("second", Value.int (secV ns)), ("minute", Value.int (minV ns)), ("hour", Value.int (hourV ns)), ("day", Value.int (dayOf ns)), ("month", Value.int (monthV ns)), ("year", Value.int (yearV ns))]
def st118 (ns : List Int) : Laid := [("text", Value.str (t118 ns)), ("day", Value.int (dayOf ns)), ("month", Value.int (monthV ns)), ("year", Value.int (yearV ns))]
def st138 (ns : List Int) : Laid := [("text", Value.str (t138 ns)), ("zone", Value.int (zoneV ns)), ("hours", Value.int (hoursV ns)), ("minutes", Value.int (minsV ns)), ("second", Value.int (secV ns)), ("minute", Value.int (minV ns)), ("hour", Value.int (hourV ns)), ("day", Value.int (dayOf ns)), ("month", Value.int (monthV ns)), ("year", Value.int (yearV ns))]
end
local macro_rules | `(tactic| walk_at "binaryOp FloorDiv int int") => `(tactic| (k_here; (with_reducible show wpAny _ _ (binaryOp Operator.FloorDiv (Value.int _ _) (Value.int (4 ^ _) _)) _ _ _); refine PyProof.Rows.floordiv_int (pow4_ne (by assumption) (by assumption)) ?_ (Or.inl (PyProof.noPylong_small (pow4_small (by assumption) (by assumption))))))
theorem pow_le {k : Int} (h : k < 0 + ((4 - 0 : Int).toNat : Int)) : k ≤ 1000000 := Int.le_trans (Int.le_of_lt h) (by decide)
local macro_rules | `(tactic| walk_at "binaryOp Pow int int") => `(tactic| (k_here; (with_reducible refine pow_int_small ?kb1 ?kb2 ?kb3 ?_); (case kb1 => with_reducible assumption); (case kb2 => exact pow_le (by with_reducible assumption)); (case kb3 => decide)))
local macro_rules | `(tactic| walk_at "eval ListComp") => `(tactic| (k_here; dsimp only))
local macro_rules | `(tactic| walk_at "eval BinOp") => `(tactic| (k_here; (with_reducible show wpAny _ _ (eval (PySem.Expr.BinOp _ _ _ ⟨141, _, _, _⟩) _) _ _ _); dsimp only))
local macro_rules | `(tactic| walk_at "execs cons") => `(tactic| (k_here; (try dsimp only); k_gentoks))
theorem c_date (w : World) (mean : ExcName → Option Value) (mg mb : Str → Option Value) (news : List (Addr × Obj)) (l : Addr) (vs : List Value) (ns : List Int) (c : Nat) (hI : IntsAre vs ns) (hlen : ns.length = 9) :
    ClD w mean mg mb news l vs ns c := by
  dsimp only [ClD]
  k_fill
  have Cb1 : CbC 135 0 (∀ (cbNews : CbLed) (cbV0 : Int) (cbT0 : CbTok), CbClaim PySem.Challenge.rw_ko0035_01.row.prog w (mk.heap_1 w.params) vw (looseW vw lse) mean mg mb 135 cbNews [] (twoPre cbV0) [.int cbV0 cbT0] (fun t => .str (two cbV0) t)) := fun news n t => c_two w mean mg mb news n t
  have Cb2 : CbC 142 0 (∀ (cbNews : CbLed) (cbV0 : Int) (cbT0 : CbTok) (cbV1 : Int) (cbT1 : CbTok), CbClaim PySem.Challenge.rw_ko0035_01.row.prog w (mk.heap_1 w.params) vw (looseW vw lse) mean mg mb 142 cbNews [] (daysPre cbV0 cbV1) [.int cbV0 cbT0, .int cbV1 cbT1] (fun t => .int (daysV cbV0 cbV1) t)) := fun news n t m u => c_days w mean mg mb news n t m u
  intro dp un gd cn cs a ccd cl outer A₀ base h₀ L m s Q E B F X N T hk hd hu hret
  refine wpAny_call ?_
  k_dflt (refine' code_defC ?k1 ?k2 ?k3 ?k4 ?k5 ?kA ?kF ?kK ?k6 ?k7 ?k8 ?k9 ?kB ?kD ?_ ?c2 ?c3 ?c4; (case kA => exact rfl); (case kF => exact rfl); (case kK => assumption); (case k1 => k_asm); (case k2 => k_asm); (case k3 => k_asm); (case k4 => k_asm); (case k5 => k_asm); (case k6 => k_is); (case k7 => k_is); (case k8 => ktr_room); (case k9 => exact BindsTo.of_eq rfl); (case kB => exact rfl); (case kD => decide +kernel); (case c2 => exact rfl); (case c3 => exact rfl); (case c4 => exact rfl); k_whole; intro g' L' h' tk' cells' FG' F' N' Y' B' X' T' l1; (try k_lt l1); k_cells Y'; (try simp only [List.cons_append, List.nil_append] at N'); (try dsimp only))
  rename_i o' d1'
  refine Run.leave (s := s) (Rs := [Value.str (t138 ns), resV (dueV ns)]) (led := (l, listOf vs.toArray c) :: news) F' N' (fun p hp => .tail _ hp) (fun vs' D h' tk' ar F0 N0 => ?_) ?r
  · obtain ⟨t1, t2, rfl⟩ := ar.e2
    exact hret _ _ _ _ _ F0 N0
  intro Q' hend
  generalize hKK : (Cx.mk _ w _ _ _ L' _ _ g' _ _) = K
  replace hend : ∀ m' vs D h' tk', Are vs [Value.str (t138 ns), resV (dueV ns)] → K.Fr h' m' → K.Ne [(D, { cls := .type "tuple", data := .seq vs.toArray })] h' → Q' (.ref D) { s with heap := h', toks := tk' } := by
    subst hKK
    exact hend
  have hc : ∃ oc : Obj, oc.data = .cell (some (.ref l)) ∧ (L' + 1, oc) ∈ K.news ∧ (l, listOf vs.toArray c) ∈ K.news := by
    subst hKK
    exact ⟨o', d1', .head _, .tail _ (.head _)⟩
  obtain ⟨oc, hc1, hc2, hc3⟩ := hc
  have hf : ∀ (m : Str → Option Value) (i : Int) p1 p2 p3 k, 0 ≤ i ∧ i < 9 → K.EvI m (.Subscript (.Name "f" p1) (.Constant (.int i) k p2) p3) (fx ns i) := by
    intro m i p1 p2 p3 k hi
    refine .mk fun ex s Q F N h => ?_
    have hcl : (cellsFrom (K.L + 1) K.scope.names []).lookup (Str.ofString "f") = some (L' + 1) := by subst hKK; rfl
    refine Subscript_ (ldCN N hcl (List.mem_append_right _ hc2) hc1 ?_ (by subst hKK; rfl) (by subst hKK; rfl))
    refine wpAny_Constant_int ?_
    exact item_list_ints (News.isList N (List.mem_append_right _ hc3)) hI hi.1 (by rw [hlen]; exact hi.2) (by lia) (fun t => h t _ _ F N)
  have hok : K.Ok lns := by
    subst hKK
    exact ⟨rfl, by unfold lns; repeat' (first | exact List.forall_mem_nil _ | refine List.forall_mem_cons.mpr ⟨⟨rfl, by decide +kernel⟩, ?_⟩), rfl⟩
  have hn1 : ∀ m p, K.Ev m (.Name "_law_two" p) fun _ => .ref 135 := by
    subst hKK
    intro m p
    refine .mk fun ex s Q F N h => ?_
    exact nameX_K F X' (topRead_of T') (by k_is) (h 0 _ _ F N)
  have hn2 : ∀ m p, K.Ev m (.Name "_law_days" p) fun _ => .ref 142 := by
    subst hKK
    intro m p
    refine .mk fun ex s Q F N h => ?_
    exact nameX_K F X' (topRead_of T') (by k_is) (h 0 _ _ F N)
  have hn3 : ∀ m p, K.Ev m (.Name "str" p) fun _ => .type "str" := by
    subst hKK
    intro m p
    refine .mk fun ex s Q F N h => ?_
    exact nameX_B F X' (topRead_of T') (by k_is) (by boot_fast) (by decide) (h 0 _ _ F N)
  have hT : ∀ (m : Str → Option Value) z p3 (n : Int) p1 p2, K.EvI m (.Name z p3) n → 0 ≤ n ∧ n < 100 → K.EvS m (.Call (.Name "_law_two" p1) [.Name z p3] [] p2) (two n) 2 := by
    intro m z p3 n p1 p2 he hn
    refine ⟨Ev.call (KF := mk.heap_1 w.params) (Rs := [Value.int n]) (hn1 m p1) (by subst hKK; exact X') (by k_is) (Els.cons he Els.nil rfl) rfl rfl ?_, two_len n⟩
    subst hKK
    intro ex s Q vs ar F N h
    obtain ⟨t, rfl⟩ := ar.e1
    k_with "call ref" => k_call_by "_law_two" two twoPre
    k_steps
    exact h _ _ _ (by assumption) (by assumption)
  have hD : ∀ (m : Str → Option Value) e1 e2 (y u : Int) p1 p2, K.EvI m e1 y → K.EvI m e2 u → daysPre y u → starEach [e1, e2] K.env = (false, eval e1 K.env) :: starEach [e2] K.env → starEach [e2] K.env = (false, eval e2 K.env) :: starEach [] K.env →
      K.EvI m (.Call (.Name "_law_days" p1) [e1, e2] [] p2) (daysV y u) := by
    intro m e1 e2 y u p1 p2 he1 he2 hn hs1 hs2
    refine Ev.call (KF := mk.heap_1 w.params) (Rs := [Value.int y, Value.int u]) (hn2 m p1) (by subst hKK; exact X') (by k_is) (Els.cons he1 (Els.cons he2 Els.nil hs2) hs1) hs1 (by rw [hs2]; rfl) ?_
    subst hKK
    intro ex s Q vs ar F N h
    obtain ⟨t1, t2, rfl⟩ := ar.e2
    obtain ⟨q1, q2, q3, q4⟩ := hn
    k_with "call ref" => k_call_by "_law_days" daysV daysPre
    k_steps
    exact h _ _ _ (by assumption) (by assumption)
  refine (?_ : ∀ m, K.Has lns m [] → Cx.Run K Q' s m _) _ ⟨hok, fun _ _ h => nomatch h⟩
  intro m113 H
  refine Run.cons (Do.tup3 (R1 := Value.int (yearV ns)) (R2 := Value.int (monthV ns)) (R3 := Value.int (dayOf ns)) H in_year in_month in_day (Els.bin (Ev.add (Ev.mod (Ev.add (hf _ 1 _ _ _ _ (by decide)) Ev.int) Ev.int (by decide)) Ev.int) (Els.bin (Ev.mod (Ev.add (hf _ 2 _ _ _ _ (by decide)) Ev.int) Ev.int (by decide)) (Els.bin (Ev.mod (Ev.add (hf _ 3 _ _ _ _ (by decide)) Ev.int) Ev.int (by decide)) Els.nil))) rfl (by subst hKK; rfl)) fun m114 H => ?_
  refine Run.cons (Do.tup2 (R1 := Value.str (oneV ns)) (R2 := Value.str (twoV ns)) H in_one in_two (Els.sub (EvS.v (Ev.sep (Els.s (Els.s (Els.s (Els.s Els.nil)))) (Ev.mod (hf _ 0 _ _ _ _ (by decide)) Ev.int (by decide)) (idx (by decide) rfl))) (Els.sub (EvS.v (Ev.sep (Els.s (Els.s (Els.s (Els.s Els.nil)))) (Ev.mod (Ev.fdiv (hf _ 0 _ _ _ _ (by decide)) Ev.int (by decide)) Ev.int (by decide)) (idx (by decide) rfl))) Els.nil)) rfl (by subst hKK; rfl)) fun m115 H => ?_
  refine Run.cons (Do.setS (y := t116 ns) H in_text (Ev.cat (Ev.cat (Ev.pre (Els.s (Els.s (Els.s (Els.s Els.nil)))) (Ev.mod (Ev.fdiv (hf _ 0 _ _ _ _ (by decide)) Ev.int (by decide)) Ev.int (by decide)) (idx (by decide) rfl)) (Ev.callStr (hn3 _ _) (Ev.name (R := Value.int (yearV ns)) H in_year (by kernel_rfl)) year_ok (by kernel_rfl)) (by decide)) (EvS.name (y := (oneV ns)) H in_one (by kernel_rfl) (tab_len (by decide +kernel))) (by decide)) (by kernel_rfl)) fun m116 H => ?_
  refine Run.cons (Do.setS (y := t117 ns) H in_text (Ev.cat (Ev.cat (EvS.name (y := (t116 ns)) H in_text (by kernel_rfl) t116_len) (Ev.iteS (Ts.and2 (Ts.neS (EvS.name (y := (twoV ns)) H in_two (by kernel_rfl) (tab_len (by decide +kernel))) (Ev.str (n := 4) (lit_len (by decide +kernel))) rfl) (fun _ => (Ts.eq (Ev.mod (Ev.fdiv (hf _ 2 _ _ _ _ (by decide)) Ev.int (by decide)) Ev.int (by decide)) Ev.int rfl))) (fun _ => (EvS.le (n := 10) (Ev.callStr (hn3 _ _) (Ev.name (R := Value.int (monthV ns)) H in_month (by kernel_rfl)) (wide month_ok) (by kernel_rfl)) (by decide))) (fun _ => (EvS.le (n := 10) (hT _ _ _ _ _ _ (Ev.name (R := Value.int (monthV ns)) H in_month (by kernel_rfl)) month_ok) (by decide)))) (by decide)) (EvS.name (y := (twoV ns)) H in_two (by kernel_rfl) (tab_len (by decide +kernel))) (by decide)) (by kernel_rfl)) fun m117 H => ?_
  refine Run.cons (Do.setS (y := t118 ns) H in_text (Ev.cat (EvS.name (y := (t117 ns)) H in_text (by kernel_rfl) t117_len) (Ev.iteS (Ts.eq (Ev.mod (Ev.fdiv (hf _ 3 _ _ _ _ (by decide)) Ev.int (by decide)) Ev.int (by decide)) Ev.int rfl) (fun _ => (EvS.le (n := 10) (Ev.callStr (hn3 _ _) (Ev.name (R := Value.int (dayOf ns)) H in_day (by kernel_rfl)) (wide day_ok) (by kernel_rfl)) (by decide))) (fun _ => (EvS.le (n := 10) (hT _ _ _ _ _ _ (Ev.name (R := Value.int (dayOf ns)) H in_day (by kernel_rfl)) day_ok) (by decide)))) (by decide)) (by kernel_rfl)) fun m118 H => ?_
  replace H := Has.sub (l' := st118 ns) H (Sub.cons (by kernel_rfl) (Sub.cons (by kernel_rfl) (Sub.cons (by kernel_rfl) (Sub.cons (by kernel_rfl) trivial))))
  refine Run.cons (Do.tup3 (R1 := Value.int (hour0 ns)) (R2 := Value.int (min0 ns)) (R3 := Value.int (sec0 ns)) H in_hour in_minute in_second (Els.bin (Ev.mod (hf _ 5 _ _ _ _ (by decide)) Ev.int (by decide)) (Els.bin (Ev.mod (hf _ 6 _ _ _ _ (by decide)) Ev.int (by decide)) (Els.bin (Ev.mod (hf _ 7 _ _ _ _ (by decide)) Ev.int (by decide)) Els.nil))) rfl (by subst hKK; rfl)) fun m119 H => ?_
  refine Run.cons (P := fun m' => K.Has lns m' (st120 ns)) (Do.ite (c := decide (mode ns = 1)) (Ts.eq (Ev.mod (hf _ 4 _ _ _ _ (by decide)) Ev.int (by decide)) Ev.int rfl) (fun h => ?p1) (fun h => ?p2)) ?p3
  case p1 =>
    refine Dos.cons (Do.tup3c (R1 := Value.int 0) (R2 := Value.int 0) (R3 := Value.int 0) H in_hour in_minute in_second (show K.ElI _ _ [0, 0, 0] from (Els.int (Els.int (Els.int Els.nil)))) rfl (by subst hKK; rfl)) fun m120 H => Dos.nil ?_
    obtain ⟨c1, c2, c3, c4⟩ := clock_1 (of_decide_eq_true h)
    unfold st120
    rw [← c1, ← c2, ← c3, ← c4]
    exact Has.sub H (Sub.cons (by kernel_rfl) (Sub.cons (by kernel_rfl) (Sub.cons (by kernel_rfl) (Sub.cons (by kernel_rfl) (Sub.cons (by kernel_rfl) (Sub.cons (by kernel_rfl) (Sub.cons (by kernel_rfl) trivial)))))))
  case p2 =>
    refine Dos.cons (Do.setS (y := colV ns) H in_colon (Ev.tabS (Els.s (Els.s Els.nil)) (Ev.mod (Ev.fdiv (hf _ 4 _ _ _ _ (by decide)) Ev.int (by decide)) Ev.int (by decide)) (idx (by decide) rfl) (Nat.le_of_ble_eq_true rfl) (tab_len (by decide +kernel)) (fun _ _ => rfl)) (by kernel_rfl)) fun m123 H => ?_
    refine Dos.cons (Do.setS (y := t124 ns) H in_text (Ev.cat (EvS.name (y := (t118 ns)) H in_text (by kernel_rfl) t118_len) (Ev.tabS (Els.s (Els.s (Els.s (Els.s (Els.s (Els.s Els.nil)))))) (Ev.mod (Ev.fdiv (hf _ 4 _ _ _ _ (by decide)) Ev.int (by decide)) Ev.int (by decide)) (idx (by decide) rfl) (Nat.le_of_ble_eq_true rfl) (tab_len (by decide +kernel)) (fun _ _ => rfl)) (by decide)) (by kernel_rfl)) fun m124 H => ?_
    refine Dos.cons (Do.setS (y := t125 ns) H in_text (Ev.cat (EvS.name (y := (t124 ns)) H in_text (by kernel_rfl) t124_len) (Ev.iteS (Ts.and2 (Ts.eqS (EvS.name (y := (colV ns)) H in_colon (by kernel_rfl) (tab_len (by decide +kernel))) (Ev.str (n := 4) (lit_len (by decide +kernel))) rfl) (fun _ => (Ts.eq (Ev.mod (Ev.fdiv (hf _ 5 _ _ _ _ (by decide)) Ev.int (by decide)) Ev.int (by decide)) Ev.int rfl))) (fun _ => (EvS.le (n := 10) (Ev.callStr (hn3 _ _) (Ev.name (R := Value.int (hour0 ns)) H in_hour (by kernel_rfl)) (wide hour0_ok) (by kernel_rfl)) (by decide))) (fun _ => (EvS.le (n := 10) (hT _ _ _ _ _ _ (Ev.name (R := Value.int (hour0 ns)) H in_hour (by kernel_rfl)) hour0_ok) (by decide)))) (by decide)) (by kernel_rfl)) fun m125 H => ?_
    refine Dos.cons (Do.setS (y := t126 ns) H in_text (Ev.cat (Ev.cat (EvS.name (y := (t125 ns)) H in_text (by kernel_rfl) t125_len) (EvS.name (y := (colV ns)) H in_colon (by kernel_rfl) (tab_len (by decide +kernel))) (by decide)) (hT _ _ _ _ _ _ (Ev.name (R := Value.int (min0 ns)) H in_minute (by kernel_rfl)) min0_ok) (by decide)) (by kernel_rfl)) fun m126 H => ?_
    refine Dos.cons (Do.set (R := Value.int (s127 ns)) H in_second (Ev.iteIP (Ts.eq (Ev.mod (hf _ 4 _ _ _ _ (by decide)) Ev.int (by decide)) Ev.int rfl) (fun _ => Ev.int) (fun _ => (Ev.name (R := Value.int (sec0 ns)) H in_second (by kernel_rfl)))) (by kernel_rfl)) fun m127 H => ?_
    refine Dos.cons (Do.setS (y := t128 ns) H in_text (Ev.cat (EvS.name (y := (t126 ns)) H in_text (by kernel_rfl) t126_len) (Ev.iteSP (Ts.eq (Ev.mod (hf _ 4 _ _ _ _ (by decide)) Ev.int (by decide)) Ev.int rfl) (fun _ => EvS.le (n := 10) (Ev.str (n := 4) (lit_len (by decide +kernel))) (by decide)) (fun _ => EvS.le (n := 10) (Ev.cat (Ev.tabS (Els.s (Els.s Els.nil)) (Ev.mod (Ev.fdiv (hf _ 4 _ _ _ _ (by decide)) Ev.int (by decide)) Ev.int (by decide)) (idx (by decide) rfl) (Nat.le_of_ble_eq_true rfl) (tab_len (by decide +kernel)) (fun _ _ => rfl)) (hT _ _ _ _ _ _ (Ev.name (R := Value.int (s127 ns)) H in_second (by kernel_rfl)) s127_ok) (by decide)) (by decide))) (by decide)) (by kernel_rfl)) fun m128 H => ?_
    refine Dos.nil ?_
    obtain ⟨c1, c2, c3, c4⟩ := clock_2 (of_decide_eq_false h)
    unfold st120
    rw [← c1, ← c2, ← c3, ← c4]
    exact Has.sub H (Sub.cons (by kernel_rfl) (Sub.cons (by kernel_rfl) (Sub.cons (by kernel_rfl) (Sub.cons (by kernel_rfl) (Sub.cons (by kernel_rfl) (Sub.cons (by kernel_rfl) (Sub.cons (by kernel_rfl) trivial)))))))
  clear H
  intro m120 H
  refine Run.cons (Do.tup3 (R1 := Value.int (zoneV ns)) (R2 := Value.int (hours0 ns)) (R3 := Value.int (mins0 ns)) H in_zone in_hours in_minutes (Els.bin (Ev.mod (hf _ 8 _ _ _ _ (by decide)) Ev.int (by decide)) (Els.bin (Ev.mod (Ev.fdiv (hf _ 8 _ _ _ _ (by decide)) Ev.int (by decide)) Ev.int (by decide)) (Els.bin (Ev.mod (Ev.fdiv (hf _ 8 _ _ _ _ (by decide)) Ev.int (by decide)) Ev.int (by decide)) Els.nil))) rfl (by subst hKK; rfl)) fun m129 H => ?_
  refine Run.cons (Do.set (R := Value.int (hoursV ns)) H in_hours (Ev.iteIP (Ts.lt (Ev.name (R := Value.int (zoneV ns)) H in_zone (by kernel_rfl)) Ev.int rfl) (fun _ => Ev.int) (fun _ => Ev.iteI (Ts.inL (ns := [9, 10]) (Ev.name (R := Value.int (zoneV ns)) H in_zone (by kernel_rfl)) (Els.int (Els.int Els.nil)) (Nat.le_of_ble_eq_true rfl) rfl) (fun _ => (Ev.mod (Ev.name (R := Value.int (hours0 ns)) H in_hours (by kernel_rfl)) Ev.int (by decide))) (fun _ => (Ev.name (R := Value.int (hours0 ns)) H in_hours (by kernel_rfl))))) (by kernel_rfl)) fun m130 H => ?_
  refine Run.cons (Do.set (R := Value.int (minsV ns)) H in_minutes (Ev.iteI (Ts.inL (ns := [0, 1, 2, 6, 7, 9]) (Ev.name (R := Value.int (zoneV ns)) H in_zone (by kernel_rfl)) (Els.int (Els.int (Els.int (Els.int (Els.int (Els.int Els.nil)))))) (Nat.le_of_ble_eq_true rfl) rfl) (fun _ => Ev.int) (fun _ => (Ev.name (R := Value.int (mins0 ns)) H in_minutes (by kernel_rfl)))) (by kernel_rfl)) fun m131 H => ?_
  refine Run.cons (Do.setS (y := bareV ns) H in_bare (Ev.iteSP (Ts.eq (Ev.mod (hf _ 4 _ _ _ _ (by decide)) Ev.int (by decide)) Ev.int rfl) (fun _ => (Ev.str (n := 4) (lit_len (by decide +kernel)))) (fun _ => (Ev.str (n := 4) (lit_len (by decide +kernel))))) (by kernel_rfl)) fun m132 H => ?_
  refine Run.cons (Do.setS (y := dashV ns) H in_dash (EvS.eq (Ev.iteS (Ts.and2 (Ts.ne (a := mode ns) (Ev.mod (hf _ 4 _ _ _ _ (by decide)) Ev.int (by decide)) Ev.int rfl) (fun _ => (Ts.eq (Ev.mod (Ev.fdiv (hf _ 8 _ _ _ _ (by decide)) Ev.int (by decide)) Ev.int (by decide)) Ev.int rfl))) (fun _ => (Ev.str (n := 4) (lit_len (by decide +kernel)))) (fun _ => (Ev.str (n := 4) (lit_len (by decide +kernel))))) dash_eq) (by kernel_rfl)) fun m133 H => ?_
  refine Run.cons (Do.setS (y := t134 ns) H in_text (Ev.cat (EvS.name (y := (tClock ns)) H in_text (by kernel_rfl) tClock_len) (Ev.tabS (Els.s (Els.s (Els.s (Els.s (Els.n (Ev.name (R := Value.str (dashV ns)) H in_dash (by kernel_rfl)) (Els.n (Ev.name (R := Value.str (dashV ns)) H in_dash (by kernel_rfl)) (Els.s (Els.s (Els.n (Ev.name (R := Value.str (dashV ns)) H in_dash (by kernel_rfl)) (Els.n (Ev.name (R := Value.str (dashV ns)) H in_dash (by kernel_rfl)) (Els.n (Ev.name (R := Value.str (dashV ns)) H in_dash (by kernel_rfl)) (Els.n (Ev.name (R := Value.str (bareV ns)) H in_bare (by kernel_rfl)) Els.nil)))))))))))) (Ev.name (R := Value.int (zoneV ns)) H in_zone (by kernel_rfl)) zone_ix (Nat.le_of_ble_eq_true rfl) sign_len (fun _ _ => rfl)) (by decide)) (by kernel_rfl)) fun m134 H => ?_
  refine Run.cons (Do.setS (y := t135 ns) H in_text (Ev.cat (EvS.name (y := (t134 ns)) H in_text (by kernel_rfl) t134_len) (Ev.iteSP (Ts.lt (Ev.name (R := Value.int (zoneV ns)) H in_zone (by kernel_rfl)) Ev.int rfl) (fun _ => EvS.le (n := 10) (Ev.str (n := 4) (lit_len (by decide +kernel))) (by decide)) (fun _ => Ev.iteS (Ts.inL (ns := [9, 10]) (Ev.name (R := Value.int (zoneV ns)) H in_zone (by kernel_rfl)) (Els.int (Els.int Els.nil)) (Nat.le_of_ble_eq_true rfl) rfl) (fun _ => (Ev.callStr (hn3 _ _) (Ev.name (R := Value.int (hoursV ns)) H in_hours (by kernel_rfl)) (wide hoursV_bd) (by kernel_rfl))) (fun _ => (EvS.le (n := 10) (hT _ _ _ _ _ _ (Ev.name (R := Value.int (hoursV ns)) H in_hours (by kernel_rfl)) hoursV_bd) (by decide))))) (by decide)) (by kernel_rfl)) fun m135 H => ?_
  refine Run.cons (Do.setS (y := t136 ns) H in_text (Ev.cat (EvS.name (y := (t135 ns)) H in_text (by kernel_rfl) t135_len) (Ev.tabS (Els.s (Els.s (Els.s (Els.s (Els.s (Els.s (Els.s (Els.s (Els.s (Els.s (Els.s (Els.s Els.nil)))))))))))) (Ev.name (R := Value.int (zoneV ns)) H in_zone (by kernel_rfl)) zone_ix (Nat.le_of_ble_eq_true rfl) (tab_len (by decide +kernel)) (fun _ _ => rfl)) (by decide)) (by kernel_rfl)) fun m136 H => ?_
  refine Run.cons (Do.setS (y := t137 ns) H in_text (Ev.cat (EvS.name (y := (t136 ns)) H in_text (by kernel_rfl) t136_len) (Ev.iteS (Ts.inL (ns := [3, 4, 5, 8, 10, 11]) (Ev.name (R := Value.int (zoneV ns)) H in_zone (by kernel_rfl)) (Els.int (Els.int (Els.int (Els.int (Els.int (Els.int Els.nil)))))) (Nat.le_of_ble_eq_true rfl) rfl) (fun _ => EvS.le (n := 10) (hT _ _ _ _ _ _ (Ev.name (R := Value.int (minsV ns)) H in_minutes (by kernel_rfl)) minsV_bd) (by decide)) (fun _ => EvS.le (n := 10) (Ev.str (n := 4) (lit_len (by decide +kernel))) (by decide))) (by decide)) (by kernel_rfl)) fun m137 H => ?_
  refine Run.cons (Do.setS (y := t138 ns) H in_text (Ev.cat (EvS.name (y := (t137 ns)) H in_text (by kernel_rfl) t137_len) (Ev.post (Els.s (Els.s (Els.s (Els.s Els.nil)))) (Ev.mod (Ev.fdiv (hf _ 0 _ _ _ _ (by decide)) Ev.int (by decide)) Ev.int (by decide)) (idx (by decide) rfl)) (by decide)) (by kernel_rfl)) fun m138 H => ?_
  replace H := Has.sub (l' := st138 ns) H (Sub.cons (by kernel_rfl) (Sub.cons (by kernel_rfl) (Sub.cons (by kernel_rfl) (Sub.cons (by kernel_rfl) (Sub.cons (by kernel_rfl) (Sub.cons (by kernel_rfl) (Sub.cons (by kernel_rfl) (Sub.cons (by kernel_rfl) (Sub.cons (by kernel_rfl) (Sub.cons (by kernel_rfl) trivial))))))))))
  refine Run.ifRet (Ts.is (Ts.or (Ts.not (Ts.le2 Ev.int (Ev.name (R := Value.int (dayOf ns)) H in_day (by kernel_rfl)) Ev.int rfl)) (fun _ => (Ts.or (Ts.not (Ts.le2 Ev.int (Ev.name (R := Value.int (monthV ns)) H in_month (by kernel_rfl)) Ev.int rfl)) (fun _ => (Ts.or (Ts.lt (Ev.name (R := Value.int (yearV ns)) H in_year (by kernel_rfl)) Ev.int rfl) (fun _ => (Ts.or (Ts.eq (Ev.name (R := Value.int (zoneV ns)) H in_zone (by kernel_rfl)) Ev.int rfl) (fun _ => Ts.or_nil)))))))) bad_eq) (fun hb => ?p4) (fun hb => ?p5)
  case p4 =>
    have hdue : dueV ns = none := by unfold dueV; rw [if_pos hb]
    exact Run.ret (Els.nm (Ev.name (R := Value.str (t138 ns)) H in_text (by kernel_rfl)) Els.none) (Nat.le_of_ble_eq_true rfl) fun vs D h' tk' ar F' N' => hend _ _ _ _ _ (by rw [hdue]; exact ar) F' N'
  obtain ⟨⟨d1, d2⟩, ⟨m1, m2⟩, y1, z1⟩ := good_day hb
  refine Run.ifRet (Ts.is (Ts.or (Ts.gt (Ev.name (R := Value.int (hourV ns)) H in_hour (by kernel_rfl)) Ev.int rfl) (fun _ => (Ts.or (Ts.gt (Ev.name (R := Value.int (minV ns)) H in_minute (by kernel_rfl)) Ev.int rfl) (fun _ => (Ts.or (Ts.gt (Ev.name (R := Value.int (secV ns)) H in_second (by kernel_rfl)) Ev.int rfl) (fun _ => (Ts.or ?t3 (fun _ => Ts.or_nil)))))))) clk_eq) (fun hc => ?p6) (fun hc => ?p7)
  case t3 =>
    clear hT hD hf hn1 hn2 hn3 hok H hend Cb1 Cb2 B F X N T hk hret FG'
    subst hKK
    refine .mk fun whole ex s Q F N h => ?_
    replace h : ∀ h' tk', PyProof.Rows.Fr g' L' h' _ → News g' L' h' _ → Q (three ns) { s with heap := h', toks := tk' } := h
    replace F : PyProof.Rows.Fr g' L' s.heap _ := F
    replace N : News g' L' s.heap ((L' + 1, o') :: (l, listOf vs.toArray c) :: (ex ++ news)) := News.sub N mem_back
    k_steps
    exact Eq.mp (congrArg (fun b => Q b _) (v141 (ns := ns)).symm) (h _ _ (by assumption) (News.sub (by assumption) fun q hq => .tail _ (mem_forth q hq)))
  case p6 =>
    have hdue : dueV ns = none := by unfold dueV; rw [if_neg (by rw [hb]; decide), if_pos hc]
    exact Run.ret (Els.nm (Ev.name (R := Value.str (t138 ns)) H in_text (by kernel_rfl)) Els.none) (Nat.le_of_ble_eq_true rfl) fun vs D h' tk' ar F' N' => hend _ _ _ _ _ (by rw [hdue]; exact ar) F' N'
  have hdue : dueV ns = some (dueI ns) := by unfold dueV; rw [if_neg (by rw [hb]; decide), if_neg (by rw [hc]; decide)]
  refine Run.cons (Do.set (R := Value.int (daysV (yearV ns) (monthV ns) - daysV 1970 1 + dayOf ns - 1)) H in_days (Ev.sub (Ev.add (Ev.sub (hD _ _ _ _ _ _ _ (Ev.name (R := Value.int (yearV ns)) H in_year (by kernel_rfl)) (Ev.name (R := Value.int (monthV ns)) H in_month (by kernel_rfl)) ⟨y1, year_hi, m1, m2⟩ (by kernel_rfl) (by kernel_rfl)) (hD _ _ _ _ _ _ _ Ev.int Ev.int (by decide) (by kernel_rfl) (by kernel_rfl))) (Ev.name (R := Value.int (dayOf ns)) H in_day (by kernel_rfl))) Ev.int) (by kernel_rfl)) fun m143 H => ?_
  refine Run.cons (Do.set (R := Value.int (offV ns)) H in_offset (Ev.mul (Ev.iteI (Ts.inL (ns := [4, 5, 9, 10]) (Ev.name (R := Value.int (zoneV ns)) H in_zone (by kernel_rfl)) (Els.int (Els.int (Els.int (Els.int Els.nil)))) (Nat.le_of_ble_eq_true rfl) rfl) (fun _ => Ev.neg1 Ev.int) (fun _ => Ev.int)) (Ev.add (Ev.mul (Ev.name (R := Value.int (hoursV ns)) H in_hours (by kernel_rfl)) Ev.int (by_1 (by decide))) (Ev.name (R := Value.int (minsV ns)) H in_minutes (by kernel_rfl))) sign_ok) (by kernel_rfl)) fun m144 H => ?_
  exact Run.ret (Els.nm (Ev.name (R := Value.str (t138 ns)) H in_text (by kernel_rfl)) (Els.bin (a := dueI ns) (Ev.add (Ev.mul (Ev.sub (Ev.add (Ev.add (Ev.mul (Ev.name (R := Value.int (daysV (yearV ns) (monthV ns) - daysV 1970 1 + dayOf ns - 1)) H in_days (by kernel_rfl)) Ev.int (by_1 (by decide))) (Ev.mul (Ev.name (R := Value.int (hourV ns)) H in_hour (by kernel_rfl)) Ev.int (by_1 (by decide)))) (Ev.name (R := Value.int (minV ns)) H in_minute (by kernel_rfl))) (Ev.name (R := Value.int (offV ns)) H in_offset (by kernel_rfl))) Ev.int (by_1 (by decide))) (Ev.name (R := Value.int (secV ns)) H in_second (by kernel_rfl))) Els.nil)) (Nat.le_of_ble_eq_true rfl) fun vs D h' tk' ar F' N' => hend _ _ _ _ _ (by rw [hdue]; exact ar) F' N'
end Mine
end
section
set_option maxRecDepth 100000
namespace Mine
open PySem PySem.W
abbrev ls (x : Str) : List Nat := x.cps.toList
theorem ls_app (a b : Str) : ls (a ++ b) = ls a ++ ls b := Array.toList_append ..
theorem ls_len (a : Str) : (ls a).length = a.length := Array.length_toList
theorem figs_fin : ∀ (n : Fin 100) (b : Bool), PySem.intText? (figs b (n.val : Int)) = some (n.val : Int) ∧ (ls (figs b (n.val : Int))).all Sre.isDigit = true ∧ ((figs b (n.val : Int)).length = 2 ∨ (figs b (n.val : Int)).length = 1 ∧ b = true ∧ n.val < 10) := by decide +kernel
theorem numS_digits {m q r : Nat} (e : m = 10 * q + r) (hr : r < 10) (hq : 0 < q) : ls (numS (m : Int)) = ls (numS (q : Int)) ++ [48 + r] := by
  unfold numS ls
  rw [KIN.signs_num, KIN.signs_num]
  have t : Nat.toDigits 10 q ++ Nat.toDigits 10 r = Nat.toDigits 10 (10 * q + r) := Nat.toDigits_append_toDigits (by decide) hq hr
  rw [e, ← t, List.map_append, Nat.toDigits_of_lt_base hr]
  congr 1
  have : ∀ r : Fin 10, [Nat.digitChar r.val].map Char.toNat = [48 + r.val] := by decide
  exact this ⟨r, hr⟩
theorem numS_one {r : Nat} (hr : r < 10) : ls (numS (r : Int)) = [48 + r] := by
  have : ∀ r : Fin 10, ls (numS ((r.val : Nat) : Int)) = [48 + r.val] := by decide +kernel
  exact this ⟨r, hr⟩
theorem digit_of {r : Nat} (h : r < 10) : Sre.isDigit (48 + r) = true := by
  have : ∀ r : Fin 10, Sre.isDigit (48 + r.val) = true := by decide
  exact this ⟨r, h⟩
theorem year_figs {y : Int} (h0 : 1000 ≤ y) (h1 : y < 10000) : ∃ a b c d, ls (numS y) = [a, b, c, d] ∧ Sre.isDigit a = true ∧ Sre.isDigit b = true ∧ Sre.isDigit c = true ∧ Sre.isDigit d = true := by
  obtain ⟨m, rfl⟩ := Int.eq_ofNat_of_zero_le (show 0 ≤ y by lia)
  have e1 := numS_digits (m := m) (q := m / 10) (r := m % 10) (by lia) (by lia) (by lia)
  have e2 := numS_digits (m := m / 10) (q := m / 10 / 10) (r := m / 10 % 10) (by lia) (by lia) (by lia)
  have e3 := numS_digits (m := m / 10 / 10) (q := m / 10 / 10 / 10) (r := m / 10 / 10 % 10) (by lia) (by lia) (by lia)
  have e4 := numS_one (r := m / 10 / 10 / 10) (by lia)
  refine ⟨_, _, _, _, by rw [e1, e2, e3, e4]; rfl, digit_of (by lia), digit_of (by lia), digit_of (by lia), digit_of (by lia)⟩
end Mine
end
section
set_option maxRecDepth 100000
namespace Mine.Rx
open PySem PySem.Sre
/-- the inner marks of a zone's figures -/
def inn (o : Option (Nat × Nat)) (i : Nat) (L : Marks) : Marks := match o with
  | none => L
  | some (a, b) => setMark (setMark L 14 (i + a)) 15 (i + b)
/-- a zone's figures are taken whole before blanks -/
def Form (f : List Nat) (o : Option (Nat × Nat)) : Prop := ∀ (k : List Nat → Nat → Marks → Option Marks) (sp : List Nat) (i : Nat) (L z : Marks), (∀ x ∈ sp, isSpace x = true) → k sp (i + f.length) (inn o i L) = some z → figs.mt k (f ++ sp) i L = some z
section
variable {a b c d : Nat}
theorem form_hhmm (ha : isDigit a = true) (hb : isDigit b = true) (hc : isDigit c = true) (hd : isDigit d = true) : Form [a, b, c, d] (some (2, 4)) := fun _ _ _ _ _ _ h => figs_hhmm ha hb hc hd h
theorem form_hhcmm (ha : isDigit a = true) (hb : isDigit b = true) (hc : isDigit c = true) (hd : isDigit d = true) : Form [a, b, 58, c, d] (some (3, 5)) := fun _ _ _ _ _ _ h => figs_hhcmm ha hb hc hd h
theorem form_hhccmm (ha : isDigit a = true) (hb : isDigit b = true) (hc : isDigit c = true) (hd : isDigit d = true) : Form [a, b, 58, 58, c, d] (some (3, 6)) := fun _ _ _ _ _ _ h => figs_hhccmm ha hb hc hd h
theorem form_hcmm (ha : isDigit a = true) (hc : isDigit c = true) (hd : isDigit d = true) : Form [a, 58, c, d] (some (2, 4)) := fun _ _ _ _ _ _ h => figs_hcmm ha hc hd h
theorem form_hh (ha : isDigit a = true) (hb : isDigit b = true) : Form [a, b] none := fun _ _ _ _ _ hsp h => figs_hh ha hb hsp h
theorem form_h (ha : isDigit a = true) : Form [a] none := fun _ _ _ _ _ hsp h => figs_h ha hsp h
theorem form_hhc (ha : isDigit a = true) (hb : isDigit b = true) : Form [a, b, 58] none := fun _ _ _ _ _ hsp h => figs_hhc ha hb hsp h
end
/-- what the tail does: s blanks, a zone of t signs -/
def tm (s t : Nat) (o : Option (Nat × Nat)) (g : Nat) (i : Nat) (L : Marks) : Marks := setMark (inn o (i + s + g) (setMark L 12 (i + s))) 13 (i + s + t)
theorem tail_sign {s1 f sp : List Nat} {o : Option (Nat × Nat)} {s : Nat} (h1 : ∀ x ∈ s1, isSpace x = true) (hl : s1.length ≤ 100) (hs : s = 45 ∨ s = 43) (hf : Form f o) (hsp : ∀ x ∈ sp, isSpace x = true) (hl2 : sp.length ≤ 100) (i : Nat) (L : Marks) :
    tailR.mt fin (s1 ++ (s :: f) ++ sp) i L = some (tm s1.length (s :: f).length o 1 i L) := by
  have hx : isSpace s = false := by rcases hs with rfl | rfl <;> decide
  rw [List.append_assoc]
  refine tail_zone (r := f ++ sp) h1 hl hx (zoneN_sign hs (hf _ sp _ _ _ hsp ?_))
  rw [endZ_spaces hsp hl2]
  show some (setMark _ 13 (i + s1.length + 1 + f.length)) = some (setMark _ 13 (i + s1.length + (f.length + 1)))
  rw [show i + s1.length + 1 + f.length = i + s1.length + (f.length + 1) by lia]
theorem tail_bare {s1 f sp : List Nat} {o : Option (Nat × Nat)} {a : Nat} (h1 : ∀ x ∈ s1, isSpace x = true) (hl : s1.length ≤ 100) (ha : isDigit a = true) (hf : Form (a :: f) o) (hsp : ∀ x ∈ sp, isSpace x = true) (hl2 : sp.length ≤ 100) (i : Nat) (L : Marks) :
    tailR.mt fin (s1 ++ (a :: f) ++ sp) i L = some (tm s1.length (a :: f).length o 0 i L) := by
  rw [List.append_assoc]
  refine tail_zone (r := f ++ sp) h1 hl (dig_sp ha) (zoneN_bare ha (hf _ sp _ _ _ hsp ?_))
  rw [endZ_spaces hsp hl2]
  rfl
theorem tail_z {s1 sp : List Nat} {x : Nat} (h1 : ∀ x ∈ s1, isSpace x = true) (hl : s1.length ≤ 100) (hx : x = 90 ∨ x = 122) (hsp : ∀ x ∈ sp, isSpace x = true) (hl2 : sp.length ≤ 100) (i : Nat) (L : Marks) :
    tailR.mt fin (s1 ++ [x] ++ sp) i L = some (tm s1.length 1 none 0 i L) := by
  rw [List.append_assoc]
  exact tail_Z h1 hl hx hsp hl2
/-- a tail: what it is made of, and what it marks -/
inductive Tail : List Nat → Option (Nat × List Nat × Option (Nat × Nat) × Nat) → Prop
  | no {sp : List Nat} : (∀ x ∈ sp, isSpace x = true) → sp.length ≤ 100 → Tail sp none
  | yes {s1 t sp : List Nat} {o : Option (Nat × Nat)} {g : Nat} : (∀ x ∈ s1, isSpace x = true) → (∀ i L, tailR.mt fin (s1 ++ t ++ sp) i L = some (tm s1.length t.length o g i L)) → Tail (s1 ++ t ++ sp) (some (s1.length, t, o, g))
def tmO (z : Option (Nat × List Nat × Option (Nat × Nat) × Nat)) (i : Nat) (L : Marks) : Marks := match z with
  | none => L
  | some (s, t, o, g) => tm s t.length o g i L
theorem Tail.go {r : List Nat} {z : Option (Nat × List Nat × Option (Nat × Nat) × Nat)} (h : Tail r z) (i : Nat) (L : Marks) : tailR.mt fin r i L = some (tmO z i L) := by
  cases h with
  | no h1 h2 => exact tail_none h1 h2
  | yes h1 h2 => exact h2 i L
end Mine.Rx
end
section
set_option maxRecDepth 100000
namespace Mine.Rx
open PySem PySem.Sre
/-- what a clock marks: p signs ahead, a figures of the hour, e colons, the seconds behind q colons or none -/
def ckM (p a e : Nat) (sc : Option Nat) (i : Nat) (L : Marks) : Marks := match sc with
  | none => setMark (setMark (setMark (setMark L 6 (i + p)) 7 (i + p + a)) 8 (i + p + a + e)) 9 (i + p + a + e + 2)
  | some q => setMark (setMark (setMark (setMark (setMark (setMark L 6 (i + p)) 7 (i + p + a)) 8 (i + p + a + e)) 9 (i + p + a + e + 2)) 10 (i + p + a + e + 2 + q)) 11 (i + p + a + e + 2 + q + 2)
def scL (sc : Option Nat) : Nat := match sc with
  | none => 0
  | some q => q + 2
/-- the seconds' part -/
inductive Secs : List Nat → Option Nat → Option (List Nat) → Prop
  | no : Secs [] none none
  | bare {u v : Nat} : isDigit u = true → isDigit v = true → Secs [u, v] (some 0) (some [u, v])
  | colon {u v : Nat} : isDigit u = true → isDigit v = true → Secs [58, u, v] (some 1) (some [u, v])
theorem Secs.len {t : List Nat} {sc : Option Nat} {x : Option (List Nat)} (h : Secs t sc x) : t.length = scL sc := by cases h <;> rfl
theorem Secs.go {t : List Nat} {sc : Option Nat} {x : Option (List Nat)} (h : Secs t sc x) {k : List Nat → Nat → Marks → Option Marks} {r : List Nat} (hr : Plain r) {i : Nat} {L z : Marks}
    (hk : k r (i + scL sc) (match sc with | none => L | some q => setMark (setMark L 10 (i + q)) 11 (i + q + 2)) = some z) : (Re.opt sec).mt k (t ++ r) i L = some z := by
  cases h with
  | no => rw [List.nil_append, sec_none hr]; exact hk
  | bare h1 h2 => exact sec_ss h1 h2 hr hk
  | colon h1 h2 => exact sec_css h1 h2 hr hk
/-- hour, colon or none, minutes -/
inductive Hm : List Nat → List Nat → Nat → List Nat → Prop
  | two0 {a b c d : Nat} : isDigit a = true → isDigit b = true → isDigit c = true → isDigit d = true → Hm [a, b, c, d] [a, b] 0 [c, d]
  | two1 {a b c d : Nat} : isDigit a = true → isDigit b = true → isDigit c = true → isDigit d = true → Hm [a, b, 58, c, d] [a, b] 1 [c, d]
  | one1 {a c d : Nat} : isDigit a = true → isDigit c = true → isDigit d = true → Hm [a, 58, c, d] [a] 1 [c, d]
theorem Hm.go {t h m : List Nat} {e : Nat} (H : Hm t h e m) {ss : List Nat} {sc : Option Nat} {x : Option (List Nat)} (hs : Secs ss sc x) {k : List Nat → Nat → Marks → Option Marks} {r : List Nat} (hr : Plain r) {i : Nat} {L z : Marks}
    (hk : k r (i + h.length + e + 2 + scL sc) (ckM 0 h.length e sc i L) = some z) : time4.mt k (t ++ (ss ++ r)) i L = some z := by
  cases H with
  | two0 ha hb hc hd =>
    refine time_hhmm ha hb hc hd (hs.go hr ?_)
    cases sc <;> exact hk
  | two1 ha hb hc hd =>
    refine time_hhcmm ha hb hc hd (hs.go hr ?_)
    cases sc <;> exact hk
  | one1 ha hc hd =>
    refine time_hcmm ha hc hd (hs.go hr ?_)
    cases sc <;> exact hk
theorem Hm.head {t h m : List Nat} {e : Nat} (H : Hm t h e m) : ∃ x r, t = x :: r ∧ isDigit x = true := by
  cases H with
  | two0 ha _ _ _ => exact ⟨_, _, rfl, ha⟩
  | two1 ha _ _ _ => exact ⟨_, _, rfl, ha⟩
  | one1 ha _ _ => exact ⟨_, _, rfl, ha⟩
theorem ckM_shift (p a e : Nat) (sc : Option Nat) (i : Nat) (L : Marks) : ckM 0 a e sc (i + p) L = ckM p a e sc i L := by cases sc <;> rfl
/-- the whole clock behind its separator -/
theorem clock_go {S t h m : List Nat} {e : Nat} (hS : (∃ x, S = [x] ∧ Cls.sep.has x = true ∧ isSpace x = false) ∨ (∀ x ∈ S, isSpace x = true) ∧ 1 ≤ S.length ∧ S.length ≤ 100) (H : Hm t h e m) {ss : List Nat} {sc : Option Nat} {x : Option (List Nat)} (hs : Secs ss sc x)
    {k : List Nat → Nat → Marks → Option Marks} {r : List Nat} (hr : Plain r) {i : Nat} {L z : Marks}
    (hk : k r (i + S.length + h.length + e + 2 + scL sc) (ckM S.length h.length e sc i L) = some z) : (Re.opt clock).mt k (S ++ (t ++ (ss ++ r))) i L = some z := by
  rcases hS with ⟨y, rfl, h1, h2⟩ | ⟨h1, h2, h3⟩
  · refine clock_sep h1 h2 (H.go hs hr ?_)
    rw [ckM_shift 1]
    exact hk
  · obtain ⟨y, r', e1, hy⟩ := H.head
    have := H.go hs hr (k := k) (i := i + S.length) (L := L) (z := z) (by rw [ckM_shift S.length]; exact hk)
    rw [e1, List.cons_append] at this ⊢
    exact clock_sp h1 h2 h3 (dig_sp hy) this
/-- the month with what is between it and the day, the day -/
inductive Md : List Nat → List Nat → Nat → List Nat → Prop
  | s22 {a b s c d : Nat} : isDigit a = true → isDigit b = true → s = 45 ∨ s = 47 → isDigit c = true → isDigit d = true → Md [a, b, s, c, d] [a, b] 1 [c, d]
  | s21 {a b s c : Nat} : isDigit a = true → isDigit b = true → s = 45 ∨ s = 47 → isDigit c = true → Md [a, b, s, c] [a, b] 1 [c]
  | s12 {a s c d : Nat} : isDigit a = true → s = 45 ∨ s = 47 → isDigit c = true → isDigit d = true → Md [a, s, c, d] [a] 1 [c, d]
  | s11 {a s c : Nat} : isDigit a = true → s = 45 ∨ s = 47 → isDigit c = true → Md [a, s, c] [a] 1 [c]
  | n22 {a b c d : Nat} : isDigit a = true → isDigit b = true → isDigit c = true → isDigit d = true → Md [a, b, c, d] [a, b] 0 [c, d]
  | n21 {a b c : Nat} : isDigit a = true → isDigit b = true → isDigit c = true → Md [a, b, c] [a, b] 0 [c]
def mdM (m s d : Nat) (i : Nat) (L : Marks) : Marks := setMark (setMark (setMark L 3 (i + m)) 4 (i + m + s)) 5 (i + m + s + d)
theorem Md.go {t m d : List Nat} {s : Nat} (H : Md t m s d) {K : List Nat → Nat → Marks → Option Marks} {r : List Nat} (hr : NoFig r) {i : Nat} {L z : Marks}
    (hk : K r (i + m.length + s + d.length) (mdM m.length s d.length i L) = some z) : kMon K (t ++ r) i L = some z := by
  cases H with
  | s22 ha hb hs hc hd => exact mon2s ha hb hs (day2 hc hd hk)
  | s21 ha hb hs hc => exact mon2s ha hb hs (day1 hc hr hk)
  | s12 ha hs hc hd => exact mon1s ha hs (day2 hc hd hk)
  | s11 ha hs hc => exact mon1s ha hs (day1 hc hr hk)
  | n22 ha hb hc hd => exact mon2 ha hb hc (day2 hc hd hk)
  | n21 ha hb hc => exact mon2 ha hb hc (day1 hc hr hk)
theorem Md.head {t m d : List Nat} {s : Nat} (H : Md t m s d) : ∃ x r, t = x :: r ∧ isDigit x = true := by
  cases H <;> exact ⟨_, _, rfl, by assumption⟩
/-- the year, what is behind it, month and day -/
theorem ymd_go {a b c d : Nat} (ha : isDigit a = true) (hb : isDigit b = true) (hc : isDigit c = true) (hd : isDigit d = true) {one : List Nat} (ho : one = [] ∨ ∃ s, one = [s] ∧ (s = 45 ∨ s = 47)) {t m dd : List Nat} {s : Nat} (H : Md t m s dd) {r : List Nat} (hr : NoFig r) {z : Marks}
    (hk : rest0.mt fin r (4 + one.length + m.length + s + dd.length) (mdM m.length s dd.length (4 + one.length) [some 0, some 4, some (4 + one.length)]) = some z) : iso.mt fin ([a, b, c, d] ++ (one ++ (t ++ r))) 0 [] = some z := by
  rcases ho with rfl | ⟨x, rfl, hx⟩
  · obtain ⟨y, r', e1, hy⟩ := H.head
    have := H.go hr hk
    rw [e1] at this ⊢
    exact year_n ha hb hc hd hy this
  · exact year_s ha hb hc hd hx (H.go hr hk)
end Mine.Rx
end
section
set_option maxRecDepth 100000
set_option maxHeartbeats 2000000
namespace Mine
open PySem PySem.W PySem.Sre
def tx (l : List Nat) : Str := ⟨l.toArray⟩
theorem slice {x : Str} {P Q R : List Nat} (h : ls x = P ++ (Q ++ R)) : (⟨x.cps.extract P.length (P.length + Q.length)⟩ : Str) = tx Q := by
  have e : x.cps = (P ++ (Q ++ R)).toArray := by rw [← h]
  unfold tx
  congr 1
  rw [e]
  apply Array.toList_inj.mp
  simp
theorem gtext_of {x : Str} {L : Rx.Marks} {j b e : Nat} {P Q R : List Nat} (hg : gpos L j = some (b, e)) (hb : b = P.length) (he : e = P.length + Q.length) (h : ls x = P ++ (Q ++ R)) : gtext x L j = some (tx Q) := by
  unfold gtext
  rw [hg, hb, he]
  show some (⟨x.cps.extract P.length (P.length + Q.length)⟩ : Str) = _
  rw [slice h]
theorem gtext_no {x : Str} {L : Rx.Marks} {j : Nat} (hg : gpos L j = none) : gtext x L j = none := by
  unfold gtext; rw [hg]; rfl
theorem Rx.Md.eq {t m d : List Nat} {s : Nat} (H : Rx.Md t m s d) : ∃ w, t = m ++ (w ++ d) ∧ w.length = s := by
  cases H <;> first | exact ⟨[_], rfl, rfl⟩ | exact ⟨[], rfl, rfl⟩
theorem Rx.Hm.eq {t h m : List Nat} {e : Nat} (H : Rx.Hm t h e m) : ∃ w, t = h ++ (w ++ m) ∧ w.length = e ∧ m.length = 2 := by
  cases H <;> first | exact ⟨[_], rfl, rfl, rfl⟩ | exact ⟨[], rfl, rfl, rfl⟩
theorem found_of {x : Str} {z : Rx.Marks} (h6 : 6 ≤ (ls x).length) (h : Rx.iso.mt Rx.fin (ls x) 0 [] = some z) : Rx.found Rx.iso 6 x.cps = some z := by
  unfold Rx.found
  rw [if_neg (by rw [Array.length_toList] at h6; lia)]
  exact h
def okAt (L : Rx.Marks) (j : Nat) : Prop := gpos L j = none ∨ ∃ b e, gpos L j = some (b, e) ∧ b ≤ e
theorem sane_of {L : Rx.Marks} (h0 : okAt L 0) (h1 : okAt L 1) (h2 : okAt L 2) (h3 : okAt L 3) (h4 : okAt L 4) (h5 : okAt L 5) (h6 : okAt L 6) (h7 : okAt L 7) : sane 8 L = true := by
  unfold sane
  rw [List.all_eq_true]
  intro j hj
  have hj := List.mem_range.mp hj
  have hk : okAt L j := by
    have : j = 0 ∨ j = 1 ∨ j = 2 ∨ j = 3 ∨ j = 4 ∨ j = 5 ∨ j = 6 ∨ j = 7 := by lia
    rcases this with rfl | rfl | rfl | rfl | rfl | rfl | rfl | rfl <;> assumption
  rcases hk with e | ⟨b, e, h, hle⟩
  · rw [e]
  · rw [h]; exact decide_eq_true hle
/-- the zone's text of a tail -/
def zt (z : Option (Nat × List Nat × Option (Nat × Nat) × Nat)) : Option Str := z.map fun p => tx p.2.1
/-- the inner marks lie within the zone -/
def inOk (z : Option (Nat × List Nat × Option (Nat × Nat) × Nat)) : Prop := match z with
  | some (_, _, some (a, b), _) => a ≤ b
  | _ => True
theorem Rx.mdM_eq (m s d i : Nat) : Rx.mdM m s d i [some 0, some 4, some i] = [some 0, some 4, some i, some (i + m), some (i + m + s), some (i + m + s + d)] := by kernel_rfl
theorem Rx.tm6n (l0 l1 l2 l3 l4 l5 : Option Nat) (s t g i : Nat) : Rx.tm s t none g i [l0, l1, l2, l3, l4, l5] = [l0, l1, l2, l3, l4, l5, none, none, none, none, none, none, some (i + s), some (i + s + t)] := by kernel_rfl
theorem Rx.tm6s (l0 l1 l2 l3 l4 l5 : Option Nat) (s t g i a b : Nat) : Rx.tm s t (some (a, b)) g i [l0, l1, l2, l3, l4, l5] = [l0, l1, l2, l3, l4, l5, none, none, none, none, none, none, some (i + s), some (i + s + t), some (i + s + g + a), some (i + s + g + b)] := by kernel_rfl
theorem Rx.tm10n (l0 l1 l2 l3 l4 l5 l6 l7 l8 l9 : Option Nat) (s t g i : Nat) : Rx.tm s t none g i [l0, l1, l2, l3, l4, l5, l6, l7, l8, l9] = [l0, l1, l2, l3, l4, l5, l6, l7, l8, l9, none, none, some (i + s), some (i + s + t)] := by kernel_rfl
theorem Rx.tm10s (l0 l1 l2 l3 l4 l5 l6 l7 l8 l9 : Option Nat) (s t g i a b : Nat) : Rx.tm s t (some (a, b)) g i [l0, l1, l2, l3, l4, l5, l6, l7, l8, l9] = [l0, l1, l2, l3, l4, l5, l6, l7, l8, l9, none, none, some (i + s), some (i + s + t), some (i + s + g + a), some (i + s + g + b)] := by kernel_rfl
theorem Rx.tm12n (l0 l1 l2 l3 l4 l5 l6 l7 l8 l9 l10 l11 : Option Nat) (s t g i : Nat) : Rx.tm s t none g i [l0, l1, l2, l3, l4, l5, l6, l7, l8, l9, l10, l11] = [l0, l1, l2, l3, l4, l5, l6, l7, l8, l9, l10, l11, some (i + s), some (i + s + t)] := by kernel_rfl
theorem Rx.tm12s (l0 l1 l2 l3 l4 l5 l6 l7 l8 l9 l10 l11 : Option Nat) (s t g i a b : Nat) : Rx.tm s t (some (a, b)) g i [l0, l1, l2, l3, l4, l5, l6, l7, l8, l9, l10, l11] = [l0, l1, l2, l3, l4, l5, l6, l7, l8, l9, l10, l11, some (i + s), some (i + s + t), some (i + s + g + a), some (i + s + g + b)] := by kernel_rfl
theorem Rx.ck6n (l0 l1 l2 l3 l4 l5 : Option Nat) (p a e i : Nat) : Rx.ckM p a e none i [l0, l1, l2, l3, l4, l5] = [l0, l1, l2, l3, l4, l5, some (i + p), some (i + p + a), some (i + p + a + e), some (i + p + a + e + 2)] := by kernel_rfl
theorem Rx.ck6s (l0 l1 l2 l3 l4 l5 : Option Nat) (p a e i q : Nat) : Rx.ckM p a e (some q) i [l0, l1, l2, l3, l4, l5] = [l0, l1, l2, l3, l4, l5, some (i + p), some (i + p + a), some (i + p + a + e), some (i + p + a + e + 2), some (i + p + a + e + 2 + q), some (i + p + a + e + 2 + q + 2)] := by kernel_rfl
section
open Rx
variable {x : Str} {a b c d : Nat} {one t m dd Z : List Nat} {s : Nat} {z : Option (Nat × List Nat × Option (Nat × Nat) × Nat)}
theorem tail_eq (hz : Tail Z z) : match z with | none => True | some (n, u, _, _) => ∃ s1 sp, Z = s1 ++ (u ++ sp) ∧ s1.length = n := by
  cases hz with
  | no _ _ => trivial
  | yes _ _ => exact ⟨_, _, by rw [List.append_assoc], rfl⟩
theorem iso_noclock (ha : isDigit a = true) (hb : isDigit b = true) (hc : isDigit c = true) (hd : isDigit d = true) (ho : one = [] ∨ ∃ s, one = [s] ∧ (s = 45 ∨ s = 47)) (H : Md t m s dd) (hr : NoFig Z) (hz : Tail Z z) (hi : inOk z)
    (hN : ∀ i L, (Re.opt clock).mt (tailR.mt fin) Z i L = tailR.mt fin Z i L) (hx : ls x = [a, b, c, d] ++ (one ++ (t ++ Z))) :
    ∃ L, found iso 6 x.cps = some L ∧ sane 8 L = true ∧ gtext x L 0 = some (tx [a, b, c, d]) ∧ gtext x L 1 = some (tx m) ∧ gtext x L 2 = some (tx dd) ∧ gtext x L 3 = none ∧ gtext x L 4 = none ∧ gtext x L 5 = none ∧ gtext x L 6 = zt z := by
  have hm : 1 ≤ m.length := by cases H <;> simp
  have hdd : 1 ≤ dd.length := by cases H <;> simp
  obtain ⟨w, et, hw⟩ := H.eq
  have hfound := ymd_go ha hb hc hd ho H hr (z := tmO z (4 + one.length + m.length + s + dd.length) (mdM m.length s dd.length (4 + one.length) [some 0, some 4, some (4 + one.length)])) (by
    show (Re.opt clock).mt (tailR.mt fin) Z _ _ = _
    rw [hN, hz.go])
  rw [et] at hx hfound
  have hl : 6 ≤ (ls x).length := by rw [hx]; simp; lia
  have g0 : ls x = [] ++ ([a, b, c, d] ++ (one ++ ((m ++ (w ++ dd)) ++ Z))) := hx
  have g1 : ls x = ([a, b, c, d] ++ one) ++ (m ++ (w ++ dd ++ Z)) := by rw [hx]; simp
  have g2 : ls x = ([a, b, c, d] ++ (one ++ (m ++ w))) ++ (dd ++ Z) := by rw [hx]; simp
  have n1 : ([a, b, c, d] ++ one).length = 4 + one.length := by simp; lia
  have n2 : ([a, b, c, d] ++ (one ++ (m ++ w))).length = 4 + one.length + m.length + s := by simp; lia
  rw [← hx] at hfound
  rw [mdM_eq] at hfound
  have he := tail_eq hz
  refine ⟨_, found_of hl hfound, ?_⟩
  clear hfound hN hr hx
  rcases z with _ | ⟨n, u, o, g⟩
  · refine ⟨sane_of (.inr ⟨_, _, rfl, Nat.zero_le _⟩) (.inr ⟨_, _, rfl, Nat.le_add_right _ _⟩) (.inr ⟨_, _, rfl, Nat.le_add_right _ _⟩) (.inl rfl) (.inl rfl) (.inl rfl) (.inl rfl) (.inl rfl), gtext_of (b := 0) (e := 4) rfl rfl rfl g0, gtext_of rfl n1.symm (by rw [n1]) g1, gtext_of rfl n2.symm (by rw [n2]) g2, gtext_no rfl, gtext_no rfl, gtext_no rfl, gtext_no rfl⟩
  · obtain ⟨s1, sp, e1, e2⟩ := he
    have g6 : ls x = ([a, b, c, d] ++ (one ++ (m ++ (w ++ (dd ++ s1))))) ++ (u ++ sp) := by rw [g2, e1]; simp
    have n6 : ([a, b, c, d] ++ (one ++ (m ++ (w ++ (dd ++ s1))))).length = 4 + one.length + m.length + s + dd.length + n := by simp; lia
    rcases o with _ | ⟨p, q⟩
    · unfold tmO
      dsimp only
      rw [tm6n]
      exact ⟨sane_of (.inr ⟨_, _, rfl, Nat.zero_le _⟩) (.inr ⟨_, _, rfl, Nat.le_add_right _ _⟩) (.inr ⟨_, _, rfl, Nat.le_add_right _ _⟩) (.inl rfl) (.inl rfl) (.inl rfl) (.inr ⟨_, _, rfl, Nat.le_add_right _ _⟩) (.inl rfl), gtext_of (b := 0) (e := 4) rfl rfl rfl g0, gtext_of rfl n1.symm (by rw [n1]) g1, gtext_of rfl n2.symm (by rw [n2]) g2, gtext_no rfl, gtext_no rfl, gtext_no rfl, gtext_of rfl n6.symm (by rw [n6]) g6⟩
    · unfold tmO
      dsimp only
      rw [tm6s]
      exact ⟨sane_of (.inr ⟨_, _, rfl, Nat.zero_le _⟩) (.inr ⟨_, _, rfl, Nat.le_add_right _ _⟩) (.inr ⟨_, _, rfl, Nat.le_add_right _ _⟩) (.inl rfl) (.inl rfl) (.inl rfl) (.inr ⟨_, _, rfl, Nat.le_add_right _ _⟩) (.inr ⟨_, _, rfl, Nat.add_le_add_left hi _⟩), gtext_of (b := 0) (e := 4) rfl rfl rfl g0, gtext_of rfl n1.symm (by rw [n1]) g1, gtext_of rfl n2.symm (by rw [n2]) g2, gtext_no rfl, gtext_no rfl, gtext_no rfl, gtext_of rfl n6.symm (by rw [n6]) g6⟩
end
end Mine
end
section
set_option maxRecDepth 100000
set_option maxHeartbeats 2000000
namespace Mine
open PySem PySem.W PySem.Sre
theorem Rx.Secs.eq {t : List Nat} {sc : Option Nat} {x : Option (List Nat)} (h : Rx.Secs t sc x) : match sc, x with | none, none => t = [] | some q, some u => ∃ w, t = w ++ u ∧ w.length = q ∧ u.length = 2 | _, _ => False := by
  cases h with
  | no => rfl
  | bare => exact ⟨[], rfl, rfl, rfl⟩
  | colon => exact ⟨[_], rfl, rfl, rfl⟩
section
open Rx
variable {x : Str} {a b c d : Nat} {one t m dd Z S ht h mi ss : List Nat} {s e : Nat} {sc : Option Nat} {xs : Option (List Nat)} {z : Option (Nat × List Nat × Option (Nat × Nat) × Nat)}
theorem iso_clock (ha : isDigit a = true) (hb : isDigit b = true) (hc : isDigit c = true) (hd : isDigit d = true) (ho : one = [] ∨ ∃ s, one = [s] ∧ (s = 45 ∨ s = 47)) (H : Md t m s dd)
    (hS : (∃ x, S = [x] ∧ Cls.sep.has x = true ∧ isSpace x = false) ∨ (∀ x ∈ S, isSpace x = true) ∧ 1 ≤ S.length ∧ S.length ≤ 100) (HH : Hm ht h e mi) (hs : Secs ss sc xs) (hp : Plain Z) (hr : NoFig (S ++ (ht ++ (ss ++ Z)))) (hz : Tail Z z) (hi : inOk z)
    (hx : ls x = [a, b, c, d] ++ (one ++ (t ++ (S ++ (ht ++ (ss ++ Z)))))) :
    ∃ L, found iso 6 x.cps = some L ∧ sane 8 L = true ∧ gtext x L 0 = some (tx [a, b, c, d]) ∧ gtext x L 1 = some (tx m) ∧ gtext x L 2 = some (tx dd) ∧ gtext x L 3 = some (tx h) ∧ gtext x L 4 = some (tx mi) ∧ gtext x L 5 = xs.map tx ∧ gtext x L 6 = zt z := by
  have hm : 1 ≤ m.length := by cases H <;> simp
  have hdd : 1 ≤ dd.length := by cases H <;> simp
  obtain ⟨w, et, hw⟩ := H.eq
  obtain ⟨w2, eh, hw2, hm2⟩ := HH.eq
  have hsq := hs.eq
  have hfound := ymd_go ha hb hc hd ho H hr (z := tmO z (4 + one.length + m.length + s + dd.length + S.length + h.length + e + 2 + scL sc) (ckM S.length h.length e sc (4 + one.length + m.length + s + dd.length) (mdM m.length s dd.length (4 + one.length) [some 0, some 4, some (4 + one.length)]))) (by
    show (Re.opt clock).mt (tailR.mt fin) (S ++ (ht ++ (ss ++ Z))) _ _ = _
    exact clock_go hS HH hs hp (hz.go _ _))
  rw [← hx] at hfound
  rw [mdM_eq] at hfound
  rw [et, eh] at hx
  have hl : 6 ≤ (ls x).length := by rw [hx]; simp; lia
  have g0 : ls x = [] ++ ([a, b, c, d] ++ (one ++ ((m ++ (w ++ dd)) ++ (S ++ ((h ++ (w2 ++ mi)) ++ (ss ++ Z)))))) := hx
  have g1 : ls x = ([a, b, c, d] ++ one) ++ (m ++ (w ++ dd ++ (S ++ ((h ++ (w2 ++ mi)) ++ (ss ++ Z))))) := by rw [hx]; simp
  have g2 : ls x = ([a, b, c, d] ++ (one ++ (m ++ w))) ++ (dd ++ (S ++ ((h ++ (w2 ++ mi)) ++ (ss ++ Z)))) := by rw [hx]; simp
  have g3 : ls x = ([a, b, c, d] ++ (one ++ (m ++ (w ++ (dd ++ S))))) ++ (h ++ (w2 ++ mi ++ (ss ++ Z))) := by rw [hx]; simp
  have g4 : ls x = ([a, b, c, d] ++ (one ++ (m ++ (w ++ (dd ++ (S ++ (h ++ w2))))))) ++ (mi ++ (ss ++ Z)) := by rw [hx]; simp
  have n1 : ([a, b, c, d] ++ one).length = 4 + one.length := by simp; lia
  have n2 : ([a, b, c, d] ++ (one ++ (m ++ w))).length = 4 + one.length + m.length + s := by simp; lia
  have n3 : ([a, b, c, d] ++ (one ++ (m ++ (w ++ (dd ++ S))))).length = 4 + one.length + m.length + s + dd.length + S.length := by simp; lia
  have n4 : ([a, b, c, d] ++ (one ++ (m ++ (w ++ (dd ++ (S ++ (h ++ w2))))))).length = 4 + one.length + m.length + s + dd.length + S.length + h.length + e := by simp; lia
  have he := tail_eq hz
  refine ⟨_, found_of hl hfound, ?_⟩
  clear hfound hr hx
  rcases sc with _ | q0
  · rcases xs with _ | u0
    rotate_left
    · exact hsq.elim
    have es : ss = [] := hsq
    rw [ck6n]
    rcases z with _ | ⟨n, u, o, g⟩
    · exact ⟨sane_of (.inr ⟨_, _, rfl, Nat.zero_le _⟩) (.inr ⟨_, _, rfl, Nat.le_add_right _ _⟩) (.inr ⟨_, _, rfl, Nat.le_add_right _ _⟩) (.inr ⟨_, _, rfl, Nat.le_add_right _ _⟩) (.inr ⟨_, _, rfl, Nat.le_add_right _ _⟩) (.inl rfl) (.inl rfl) (.inl rfl), gtext_of (b := 0) (e := 4) rfl rfl rfl g0, gtext_of rfl n1.symm (by rw [n1]) g1, gtext_of rfl n2.symm (by rw [n2]) g2, gtext_of rfl n3.symm (by rw [n3]) g3, gtext_of rfl n4.symm (by rw [n4, hm2]) g4, gtext_no rfl, gtext_no rfl⟩
    obtain ⟨s1, sp, e1, e2⟩ := he
    have g6 : ls x = ([a, b, c, d] ++ (one ++ (m ++ (w ++ (dd ++ (S ++ (h ++ (w2 ++ (mi ++ s1))))))))) ++ (u ++ sp) := by rw [g4, es, e1]; simp
    have n6 : ([a, b, c, d] ++ (one ++ (m ++ (w ++ (dd ++ (S ++ (h ++ (w2 ++ (mi ++ s1))))))))).length = 4 + one.length + m.length + s + dd.length + S.length + h.length + e + 2 + scL none + n := by simp [scL]; lia
    rcases o with _ | ⟨p, q⟩
    · unfold tmO
      dsimp only
      rw [tm10n]
      exact ⟨sane_of (.inr ⟨_, _, rfl, Nat.zero_le _⟩) (.inr ⟨_, _, rfl, Nat.le_add_right _ _⟩) (.inr ⟨_, _, rfl, Nat.le_add_right _ _⟩) (.inr ⟨_, _, rfl, Nat.le_add_right _ _⟩) (.inr ⟨_, _, rfl, Nat.le_add_right _ _⟩) (.inl rfl) (.inr ⟨_, _, rfl, Nat.le_add_right _ _⟩) (.inl rfl), gtext_of (b := 0) (e := 4) rfl rfl rfl g0, gtext_of rfl n1.symm (by rw [n1]) g1, gtext_of rfl n2.symm (by rw [n2]) g2, gtext_of rfl n3.symm (by rw [n3]) g3, gtext_of rfl n4.symm (by rw [n4, hm2]) g4, gtext_no rfl, gtext_of rfl n6.symm (by rw [n6]) g6⟩
    · unfold tmO
      dsimp only
      rw [tm10s]
      exact ⟨sane_of (.inr ⟨_, _, rfl, Nat.zero_le _⟩) (.inr ⟨_, _, rfl, Nat.le_add_right _ _⟩) (.inr ⟨_, _, rfl, Nat.le_add_right _ _⟩) (.inr ⟨_, _, rfl, Nat.le_add_right _ _⟩) (.inr ⟨_, _, rfl, Nat.le_add_right _ _⟩) (.inl rfl) (.inr ⟨_, _, rfl, Nat.le_add_right _ _⟩) (.inr ⟨_, _, rfl, Nat.add_le_add_left hi _⟩), gtext_of (b := 0) (e := 4) rfl rfl rfl g0, gtext_of rfl n1.symm (by rw [n1]) g1, gtext_of rfl n2.symm (by rw [n2]) g2, gtext_of rfl n3.symm (by rw [n3]) g3, gtext_of rfl n4.symm (by rw [n4, hm2]) g4, gtext_no rfl, gtext_of rfl n6.symm (by rw [n6]) g6⟩
  · rcases xs with _ | u0
    · exact hsq.elim
    obtain ⟨w3, es, hw3, hu2⟩ := hsq
    rw [ck6s]
    have g5 : ls x = ([a, b, c, d] ++ (one ++ (m ++ (w ++ (dd ++ (S ++ (h ++ (w2 ++ (mi ++ w3))))))))) ++ (u0 ++ Z) := by rw [g4, es]; simp
    have n5 : ([a, b, c, d] ++ (one ++ (m ++ (w ++ (dd ++ (S ++ (h ++ (w2 ++ (mi ++ w3))))))))).length = 4 + one.length + m.length + s + dd.length + S.length + h.length + e + 2 + q0 := by simp; lia
    rcases z with _ | ⟨n, u, o, g⟩
    · exact ⟨sane_of (.inr ⟨_, _, rfl, Nat.zero_le _⟩) (.inr ⟨_, _, rfl, Nat.le_add_right _ _⟩) (.inr ⟨_, _, rfl, Nat.le_add_right _ _⟩) (.inr ⟨_, _, rfl, Nat.le_add_right _ _⟩) (.inr ⟨_, _, rfl, Nat.le_add_right _ _⟩) (.inr ⟨_, _, rfl, Nat.le_add_right _ _⟩) (.inl rfl) (.inl rfl), gtext_of (b := 0) (e := 4) rfl rfl rfl g0, gtext_of rfl n1.symm (by rw [n1]) g1, gtext_of rfl n2.symm (by rw [n2]) g2, gtext_of rfl n3.symm (by rw [n3]) g3, gtext_of rfl n4.symm (by rw [n4, hm2]) g4, gtext_of rfl n5.symm (by rw [n5, hu2]) g5, gtext_no rfl⟩
    obtain ⟨s1, sp, e1, e2⟩ := he
    have g6 : ls x = ([a, b, c, d] ++ (one ++ (m ++ (w ++ (dd ++ (S ++ (h ++ (w2 ++ (mi ++ (w3 ++ (u0 ++ s1))))))))))) ++ (u ++ sp) := by rw [g5, e1]; simp
    have n6 : ([a, b, c, d] ++ (one ++ (m ++ (w ++ (dd ++ (S ++ (h ++ (w2 ++ (mi ++ (w3 ++ (u0 ++ s1))))))))))).length = 4 + one.length + m.length + s + dd.length + S.length + h.length + e + 2 + scL (some q0) + n := by simp [scL]; lia
    rcases o with _ | ⟨p, q⟩
    · unfold tmO
      dsimp only
      rw [tm12n]
      exact ⟨sane_of (.inr ⟨_, _, rfl, Nat.zero_le _⟩) (.inr ⟨_, _, rfl, Nat.le_add_right _ _⟩) (.inr ⟨_, _, rfl, Nat.le_add_right _ _⟩) (.inr ⟨_, _, rfl, Nat.le_add_right _ _⟩) (.inr ⟨_, _, rfl, Nat.le_add_right _ _⟩) (.inr ⟨_, _, rfl, Nat.le_add_right _ _⟩) (.inr ⟨_, _, rfl, Nat.le_add_right _ _⟩) (.inl rfl), gtext_of (b := 0) (e := 4) rfl rfl rfl g0, gtext_of rfl n1.symm (by rw [n1]) g1, gtext_of rfl n2.symm (by rw [n2]) g2, gtext_of rfl n3.symm (by rw [n3]) g3, gtext_of rfl n4.symm (by rw [n4, hm2]) g4, gtext_of rfl n5.symm (by rw [n5, hu2]) g5, gtext_of rfl n6.symm (by rw [n6]) g6⟩
    · unfold tmO
      dsimp only
      rw [tm12s]
      exact ⟨sane_of (.inr ⟨_, _, rfl, Nat.zero_le _⟩) (.inr ⟨_, _, rfl, Nat.le_add_right _ _⟩) (.inr ⟨_, _, rfl, Nat.le_add_right _ _⟩) (.inr ⟨_, _, rfl, Nat.le_add_right _ _⟩) (.inr ⟨_, _, rfl, Nat.le_add_right _ _⟩) (.inr ⟨_, _, rfl, Nat.le_add_right _ _⟩) (.inr ⟨_, _, rfl, Nat.le_add_right _ _⟩) (.inr ⟨_, _, rfl, Nat.add_le_add_left hi _⟩), gtext_of (b := 0) (e := 4) rfl rfl rfl g0, gtext_of rfl n1.symm (by rw [n1]) g1, gtext_of rfl n2.symm (by rw [n2]) g2, gtext_of rfl n3.symm (by rw [n3]) g3, gtext_of rfl n4.symm (by rw [n4, hm2]) g4, gtext_of rfl n5.symm (by rw [n5, hu2]) g5, gtext_of rfl n6.symm (by rw [n6]) g6⟩
end
end Mine
end
section
set_option maxRecDepth 100000
set_option maxHeartbeats 2000000
namespace Mine
open PySem PySem.W PySem.Sre
section
open Rx
variable {a b c d : Nat}
theorem tz_n_hhmm (ha : isDigit a = true) (hb : isDigit b = true) (hc : isDigit c = true) (hd : isDigit d = true) : tzR.mt fin [a, b, c, d] 0 [] = some [none, none, some 0, some 2, some 2, some 4] := by
  simp [tzR, dd, two2, Re.mt, repm, Cls.has, setMark, List.replicate, show isDigit 58 = false from rfl, ha, dig_ne ha (show isDigit 58 = false by decide), dig_ne ha (show isDigit 45 = false by decide), dig_ne ha (show isDigit 43 = false by decide), hb, dig_ne hb (show isDigit 58 = false by decide), dig_ne hb (show isDigit 45 = false by decide), dig_ne hb (show isDigit 43 = false by decide), hc, dig_ne hc (show isDigit 58 = false by decide), dig_ne hc (show isDigit 45 = false by decide), dig_ne hc (show isDigit 43 = false by decide), hd, dig_ne hd (show isDigit 58 = false by decide), dig_ne hd (show isDigit 45 = false by decide), dig_ne hd (show isDigit 43 = false by decide)]
theorem tz_m_hhmm (ha : isDigit a = true) (hb : isDigit b = true) (hc : isDigit c = true) (hd : isDigit d = true) : tzR.mt fin [45, a, b, c, d] 0 [] = some [some 0, some 1, some 1, some 3, some 3, some 5] := by
  simp [tzR, dd, two2, Re.mt, repm, Cls.has, setMark, List.replicate, show isDigit 58 = false from rfl, ha, dig_ne ha (show isDigit 58 = false by decide), dig_ne ha (show isDigit 45 = false by decide), dig_ne ha (show isDigit 43 = false by decide), hb, dig_ne hb (show isDigit 58 = false by decide), dig_ne hb (show isDigit 45 = false by decide), dig_ne hb (show isDigit 43 = false by decide), hc, dig_ne hc (show isDigit 58 = false by decide), dig_ne hc (show isDigit 45 = false by decide), dig_ne hc (show isDigit 43 = false by decide), hd, dig_ne hd (show isDigit 58 = false by decide), dig_ne hd (show isDigit 45 = false by decide), dig_ne hd (show isDigit 43 = false by decide)]
theorem tz_m_hhcmm (ha : isDigit a = true) (hb : isDigit b = true) (hc : isDigit c = true) (hd : isDigit d = true) : tzR.mt fin [45, a, b, 58, c, d] 0 [] = some [some 0, some 1, some 1, some 3, some 4, some 6] := by
  simp [tzR, dd, two2, Re.mt, repm, Cls.has, setMark, List.replicate, show isDigit 58 = false from rfl, ha, dig_ne ha (show isDigit 58 = false by decide), dig_ne ha (show isDigit 45 = false by decide), dig_ne ha (show isDigit 43 = false by decide), hb, dig_ne hb (show isDigit 58 = false by decide), dig_ne hb (show isDigit 45 = false by decide), dig_ne hb (show isDigit 43 = false by decide), hc, dig_ne hc (show isDigit 58 = false by decide), dig_ne hc (show isDigit 45 = false by decide), dig_ne hc (show isDigit 43 = false by decide), hd, dig_ne hd (show isDigit 58 = false by decide), dig_ne hd (show isDigit 45 = false by decide), dig_ne hd (show isDigit 43 = false by decide)]
theorem tz_m_hcmm (ha : isDigit a = true) (hc : isDigit c = true) (hd : isDigit d = true) : tzR.mt fin [45, a, 58, c, d] 0 [] = some [some 0, some 1, some 1, some 2, some 3, some 5] := by
  simp [tzR, dd, two2, Re.mt, repm, Cls.has, setMark, List.replicate, show isDigit 58 = false from rfl, ha, dig_ne ha (show isDigit 58 = false by decide), dig_ne ha (show isDigit 45 = false by decide), dig_ne ha (show isDigit 43 = false by decide), hc, dig_ne hc (show isDigit 58 = false by decide), dig_ne hc (show isDigit 45 = false by decide), dig_ne hc (show isDigit 43 = false by decide), hd, dig_ne hd (show isDigit 58 = false by decide), dig_ne hd (show isDigit 45 = false by decide), dig_ne hd (show isDigit 43 = false by decide)]
theorem tz_m_h (ha : isDigit a = true) : tzR.mt fin [45, a] 0 [] = some [some 0, some 1, some 1, some 2] := by
  simp [tzR, dd, two2, Re.mt, repm, Cls.has, setMark, List.replicate, show isDigit 58 = false from rfl, ha, dig_ne ha (show isDigit 58 = false by decide), dig_ne ha (show isDigit 45 = false by decide), dig_ne ha (show isDigit 43 = false by decide)]
theorem tz_m_cc (ha : isDigit a = true) (hb : isDigit b = true) (hc : isDigit c = true) (hd : isDigit d = true) : tzR.mt fin [45, a, b, 58, 58, c, d] 0 [] = none := by
  simp [tzR, dd, two2, Re.mt, repm, Cls.has, setMark, List.replicate, show isDigit 58 = false from rfl, ha, dig_ne ha (show isDigit 58 = false by decide), dig_ne ha (show isDigit 45 = false by decide), dig_ne ha (show isDigit 43 = false by decide), hb, dig_ne hb (show isDigit 58 = false by decide), dig_ne hb (show isDigit 45 = false by decide), dig_ne hb (show isDigit 43 = false by decide), hc, dig_ne hc (show isDigit 58 = false by decide), dig_ne hc (show isDigit 45 = false by decide), dig_ne hc (show isDigit 43 = false by decide), hd, dig_ne hd (show isDigit 58 = false by decide), dig_ne hd (show isDigit 45 = false by decide), dig_ne hd (show isDigit 43 = false by decide)]
theorem tz_p_hhmm (ha : isDigit a = true) (hb : isDigit b = true) (hc : isDigit c = true) (hd : isDigit d = true) : tzR.mt fin [43, a, b, c, d] 0 [] = some [some 0, some 1, some 1, some 3, some 3, some 5] := by
  simp [tzR, dd, two2, Re.mt, repm, Cls.has, setMark, List.replicate, show isDigit 58 = false from rfl, ha, dig_ne ha (show isDigit 58 = false by decide), dig_ne ha (show isDigit 45 = false by decide), dig_ne ha (show isDigit 43 = false by decide), hb, dig_ne hb (show isDigit 58 = false by decide), dig_ne hb (show isDigit 45 = false by decide), dig_ne hb (show isDigit 43 = false by decide), hc, dig_ne hc (show isDigit 58 = false by decide), dig_ne hc (show isDigit 45 = false by decide), dig_ne hc (show isDigit 43 = false by decide), hd, dig_ne hd (show isDigit 58 = false by decide), dig_ne hd (show isDigit 45 = false by decide), dig_ne hd (show isDigit 43 = false by decide)]
theorem tz_p_hh (ha : isDigit a = true) (hb : isDigit b = true) : tzR.mt fin [43, a, b] 0 [] = some [some 0, some 1, some 1, some 3] := by
  simp [tzR, dd, two2, Re.mt, repm, Cls.has, setMark, List.replicate, show isDigit 58 = false from rfl, ha, dig_ne ha (show isDigit 58 = false by decide), dig_ne ha (show isDigit 45 = false by decide), dig_ne ha (show isDigit 43 = false by decide), hb, dig_ne hb (show isDigit 58 = false by decide), dig_ne hb (show isDigit 45 = false by decide), dig_ne hb (show isDigit 43 = false by decide)]
theorem tz_p_hhc (ha : isDigit a = true) (hb : isDigit b = true) : tzR.mt fin [43, a, b, 58] 0 [] = some [some 0, some 1, some 1, some 3] := by
  simp [tzR, dd, two2, Re.mt, repm, Cls.has, setMark, List.replicate, show isDigit 58 = false from rfl, ha, dig_ne ha (show isDigit 58 = false by decide), dig_ne ha (show isDigit 45 = false by decide), dig_ne ha (show isDigit 43 = false by decide), hb, dig_ne hb (show isDigit 58 = false by decide), dig_ne hb (show isDigit 45 = false by decide), dig_ne hb (show isDigit 43 = false by decide)]
theorem utc_no {x : Str} {y : Nat} {r : List Nat} (hx : ls x = y :: r) (hy : isDigit y = true ∨ (y == 45 || y == 43) = true) : utc x = false := by
  have k : ∀ s : Str, (ls s).head? ≠ some y → decide (x = s) = false := fun s hs => decide_eq_false fun e => hs (by rw [← e, hx]; rfl)
  have hn : y ≠ 71 ∧ y ≠ 85 ∧ y ≠ 90 := by
    rcases hy with h | h
    · simp only [isDigit, Bool.and_eq_true, decide_eq_true_eq] at h; lia
    · simp only [Bool.or_eq_true, beq_iff_eq] at h; lia
  unfold utc
  rw [k ⟨#[71, 77, 84]⟩ (by simp [ls]; lia), k ⟨#[85, 84, 67]⟩ (by simp [ls]; lia), k ⟨#[85, 84]⟩ (by simp [ls]; lia), k ⟨#[90]⟩ (by simp [ls]; lia)]
  rfl
theorem tz_found {x : Str} {l : List Nat} {z : Option Marks} (hx : ls x = l) (hl : 1 ≤ l.length) (h : tzR.mt fin l 0 [] = z) : found tzR 1 x.cps = z := by
  unfold found
  rw [if_neg (by have := ls_len x; rw [hx] at this; have e : x.length = x.cps.size := rfl; lia)]
  show tzR.mt fin (ls x) 0 [] = z
  rw [hx, h]
theorem off_n_hhmm {x : Str} {hh mm : Int} (ha : isDigit a = true) (hb : isDigit b = true) (hc : isDigit c = true) (hd : isDigit d = true) (hx : ls x = [a, b, c, d]) (ih : PySem.intText? (tx [a, b]) = some hh) (im : PySem.intText? (tx [c, d]) = some mm) : OffR x (some (if false = true then -(3600 * hh + 60 * mm) else 3600 * hh + 60 * mm)) :=
  .yes (neg := false) (utc_no hx (.inl ha)) (tz_found hx (Nat.succ_le_succ (Nat.zero_le _)) (tz_n_hhmm ha hb hc hd)) (by decide) (gtext_of (P := []) (Q := [a, b]) (R := ([] ++ [c, d])) (b := 0) (e := 2) rfl rfl rfl hx) ih (Nat.le_trans (show 2 ≤ 2 by decide) (by decide)) (.inr ⟨_, gtext_of (P := [] ++ ([a, b] ++ [])) (Q := [c, d]) (R := []) (b := 2) (e := 4) rfl rfl rfl hx, (Nat.succ_ne_zero 1 : (2 : Nat) ≠ 0), im, (show (2 : Nat) ≤ 640 by decide)⟩) (.inl ⟨gtext_no rfl, rfl⟩)
theorem off_m_hhmm {x : Str} {hh mm : Int} (ha : isDigit a = true) (hb : isDigit b = true) (hc : isDigit c = true) (hd : isDigit d = true) (hx : ls x = [45, a, b, c, d]) (ih : PySem.intText? (tx [a, b]) = some hh) (im : PySem.intText? (tx [c, d]) = some mm) : OffR x (some (if true = true then -(3600 * hh + 60 * mm) else 3600 * hh + 60 * mm)) :=
  .yes (neg := true) (utc_no hx (.inr (by decide))) (tz_found hx (Nat.succ_le_succ (Nat.zero_le _)) (tz_m_hhmm ha hb hc hd)) (by decide) (gtext_of (P := [45]) (Q := [a, b]) (R := ([] ++ [c, d])) (b := 1) (e := 3) rfl rfl rfl hx) ih (Nat.le_trans (show 2 ≤ 2 by decide) (by decide)) (.inr ⟨_, gtext_of (P := [45] ++ ([a, b] ++ [])) (Q := [c, d]) (R := []) (b := 3) (e := 5) rfl rfl rfl hx, (Nat.succ_ne_zero 1 : (2 : Nat) ≠ 0), im, (show (2 : Nat) ≤ 640 by decide)⟩) (.inr (.inr ⟨gtext_of (P := []) (Q := [45]) (b := 0) (e := 1) rfl rfl rfl hx, rfl⟩))
theorem off_m_hhcmm {x : Str} {hh mm : Int} (ha : isDigit a = true) (hb : isDigit b = true) (hc : isDigit c = true) (hd : isDigit d = true) (hx : ls x = [45, a, b, 58, c, d]) (ih : PySem.intText? (tx [a, b]) = some hh) (im : PySem.intText? (tx [c, d]) = some mm) : OffR x (some (if true = true then -(3600 * hh + 60 * mm) else 3600 * hh + 60 * mm)) :=
  .yes (neg := true) (utc_no hx (.inr (by decide))) (tz_found hx (Nat.succ_le_succ (Nat.zero_le _)) (tz_m_hhcmm ha hb hc hd)) (by decide) (gtext_of (P := [45]) (Q := [a, b]) (R := ([58] ++ [c, d])) (b := 1) (e := 3) rfl rfl rfl hx) ih (Nat.le_trans (show 2 ≤ 2 by decide) (by decide)) (.inr ⟨_, gtext_of (P := [45] ++ ([a, b] ++ [58])) (Q := [c, d]) (R := []) (b := 4) (e := 6) rfl rfl rfl hx, (Nat.succ_ne_zero 1 : (2 : Nat) ≠ 0), im, (show (2 : Nat) ≤ 640 by decide)⟩) (.inr (.inr ⟨gtext_of (P := []) (Q := [45]) (b := 0) (e := 1) rfl rfl rfl hx, rfl⟩))
theorem off_m_hcmm {x : Str} {hh mm : Int} (ha : isDigit a = true) (hc : isDigit c = true) (hd : isDigit d = true) (hx : ls x = [45, a, 58, c, d]) (ih : PySem.intText? (tx [a]) = some hh) (im : PySem.intText? (tx [c, d]) = some mm) : OffR x (some (if true = true then -(3600 * hh + 60 * mm) else 3600 * hh + 60 * mm)) :=
  .yes (neg := true) (utc_no hx (.inr (by decide))) (tz_found hx (Nat.succ_le_succ (Nat.zero_le _)) (tz_m_hcmm ha hc hd)) (by decide) (gtext_of (P := [45]) (Q := [a]) (R := ([58] ++ [c, d])) (b := 1) (e := 2) rfl rfl rfl hx) ih (Nat.le_trans (show 1 ≤ 2 by decide) (by decide)) (.inr ⟨_, gtext_of (P := [45] ++ ([a] ++ [58])) (Q := [c, d]) (R := []) (b := 3) (e := 5) rfl rfl rfl hx, (Nat.succ_ne_zero 1 : (2 : Nat) ≠ 0), im, (show (2 : Nat) ≤ 640 by decide)⟩) (.inr (.inr ⟨gtext_of (P := []) (Q := [45]) (b := 0) (e := 1) rfl rfl rfl hx, rfl⟩))
theorem off_m_h {x : Str} {hh : Int} (ha : isDigit a = true) (hx : ls x = [45, a]) (ih : PySem.intText? (tx [a]) = some hh) : OffR x (some (if true = true then -(3600 * hh + 60 * 0) else 3600 * hh + 60 * 0)) :=
  .yes (neg := true) (utc_no hx (.inr (by decide))) (tz_found hx (Nat.succ_le_succ (Nat.zero_le _)) (tz_m_h ha)) (by decide) (gtext_of (P := [45]) (Q := [a]) (R := ([] ++ [])) (b := 1) (e := 2) rfl rfl rfl hx) ih (Nat.le_trans (show 1 ≤ 2 by decide) (by decide)) (.inl ⟨gtext_no rfl, rfl⟩) (.inr (.inr ⟨gtext_of (P := []) (Q := [45]) (b := 0) (e := 1) rfl rfl rfl hx, rfl⟩))
theorem off_m_cc {x : Str} (ha : isDigit a = true) (hb : isDigit b = true) (hc : isDigit c = true) (hd : isDigit d = true) (hx : ls x = [45, a, b, 58, 58, c, d]) : OffR x none := .no (utc_no hx (.inr (by decide))) (tz_found hx (Nat.succ_le_succ (Nat.zero_le _)) (tz_m_cc ha hb hc hd))
theorem off_p_hhmm {x : Str} {hh mm : Int} (ha : isDigit a = true) (hb : isDigit b = true) (hc : isDigit c = true) (hd : isDigit d = true) (hx : ls x = [43, a, b, c, d]) (ih : PySem.intText? (tx [a, b]) = some hh) (im : PySem.intText? (tx [c, d]) = some mm) : OffR x (some (if false = true then -(3600 * hh + 60 * mm) else 3600 * hh + 60 * mm)) :=
  .yes (neg := false) (utc_no hx (.inr (by decide))) (tz_found hx (Nat.succ_le_succ (Nat.zero_le _)) (tz_p_hhmm ha hb hc hd)) (by decide) (gtext_of (P := [43]) (Q := [a, b]) (R := ([] ++ [c, d])) (b := 1) (e := 3) rfl rfl rfl hx) ih (Nat.le_trans (show 2 ≤ 2 by decide) (by decide)) (.inr ⟨_, gtext_of (P := [43] ++ ([a, b] ++ [])) (Q := [c, d]) (R := []) (b := 3) (e := 5) rfl rfl rfl hx, (Nat.succ_ne_zero 1 : (2 : Nat) ≠ 0), im, (show (2 : Nat) ≤ 640 by decide)⟩) (.inr (.inl ⟨gtext_of (P := []) (Q := [43]) (b := 0) (e := 1) rfl rfl rfl hx, rfl⟩))
theorem off_p_hh {x : Str} {hh : Int} (ha : isDigit a = true) (hb : isDigit b = true) (hx : ls x = [43, a, b]) (ih : PySem.intText? (tx [a, b]) = some hh) : OffR x (some (if false = true then -(3600 * hh + 60 * 0) else 3600 * hh + 60 * 0)) :=
  .yes (neg := false) (utc_no hx (.inr (by decide))) (tz_found hx (Nat.succ_le_succ (Nat.zero_le _)) (tz_p_hh ha hb)) (by decide) (gtext_of (P := [43]) (Q := [a, b]) (R := ([] ++ [])) (b := 1) (e := 3) rfl rfl rfl hx) ih (Nat.le_trans (show 2 ≤ 2 by decide) (by decide)) (.inl ⟨gtext_no rfl, rfl⟩) (.inr (.inl ⟨gtext_of (P := []) (Q := [43]) (b := 0) (e := 1) rfl rfl rfl hx, rfl⟩))
theorem off_p_hhc {x : Str} {hh : Int} (ha : isDigit a = true) (hb : isDigit b = true) (hx : ls x = [43, a, b, 58]) (ih : PySem.intText? (tx [a, b]) = some hh) : OffR x (some (if false = true then -(3600 * hh + 60 * 0) else 3600 * hh + 60 * 0)) :=
  .yes (neg := false) (utc_no hx (.inr (by decide))) (tz_found hx (Nat.succ_le_succ (Nat.zero_le _)) (tz_p_hhc ha hb)) (by decide) (gtext_of (P := [43]) (Q := [a, b]) (R := ([58] ++ [])) (b := 1) (e := 3) rfl rfl rfl hx) ih (Nat.le_trans (show 2 ≤ 2 by decide) (by decide)) (.inl ⟨gtext_no rfl, rfl⟩) (.inr (.inl ⟨gtext_of (P := []) (Q := [43]) (b := 0) (e := 1) rfl rfl rfl hx, rfl⟩))
end
end Mine
end
section
set_option maxRecDepth 100000
set_option maxHeartbeats 1000000
namespace Mine
open PySem PySem.W PySem.Sre
theorem tx_ls (s : Str) : tx (ls s) = s := by cases s; rfl
theorem figs_list {n : Int} (h0 : 0 ≤ n) (h1 : n < 100) (b : Bool) : PySem.intText? (figs b n) = some n ∧ ((∃ x, ls (figs b n) = [x] ∧ isDigit x = true ∧ b = true) ∨ ∃ x y, ls (figs b n) = [x, y] ∧ isDigit x = true ∧ isDigit y = true) := by
  obtain ⟨a, h, l⟩ := figs_fin ⟨n.toNat, by lia⟩ b
  rw [show (((⟨n.toNat, by lia⟩ : Fin 100).val : Nat) : Int) = n by simp; lia] at a h l
  refine ⟨a, ?_⟩
  rw [← ls_len] at l
  generalize ls (figs b n) = q at h l
  rcases l with l | ⟨l, hb, _⟩
  · right
    match q, l with
    | [x, y], _ => simp only [List.all_cons, List.all_nil, Bool.and_true, Bool.and_eq_true] at h; exact ⟨x, y, rfl, h.1, h.2⟩
  · left
    match q, l with
    | [x], _ => simp only [List.all_cons, List.all_nil, Bool.and_true] at h; exact ⟨x, rfl, h, hb⟩
theorem two_list {n : Int} (h0 : 0 ≤ n) (h1 : n < 100) : PySem.intText? (two n) = some n ∧ ∃ x y, ls (two n) = [x, y] ∧ isDigit x = true ∧ isDigit y = true := by
  obtain ⟨a, h⟩ := figs_list h0 h1 false
  refine ⟨a, ?_⟩
  rcases h with ⟨x, _, _, hb⟩ | h
  · cases hb
  · exact h
theorem sep_list {i : Int} (h0 : 0 ≤ i) (h1 : i < 4) (h3 : i ≠ 3) : ls (sepT i) = [] ∨ ∃ s, ls (sepT i) = [s] ∧ (s = 45 ∨ s = 47) := by
  have : i = 0 ∨ i = 1 ∨ i = 2 := by lia
  rcases this with rfl | rfl | rfl
  · exact .inl rfl
  · exact .inr ⟨45, rfl, .inl rfl⟩
  · exact .inr ⟨47, rfl, .inr rfl⟩
theorem three_no {ns : List Int} (h : three ns = false) : (fx ns 0).fmod 4 ≠ 3 ∧ ((fx ns 0).fdiv 4).fmod 4 ≠ 3 ∧ ((fx ns 0).fdiv 16).fmod 4 ≠ 3 ∧ ((fx ns 0).fdiv 64).fmod 4 ≠ 3 := by
  simp only [three, inL, List.any_cons, List.any_nil, Bool.or_false, Bool.or_eq_false_iff, beq_eq_false_iff_ne] at h
  exact h
theorem md_of {ns : List Int} (h : three ns = false) : Rx.Md (ls (figs (b117 ns) (monthV ns)) ++ (ls (twoV ns) ++ ls (figs (b118 ns) (dayOf ns)))) (ls (figs (b117 ns) (monthV ns))) (ls (twoV ns)).length (ls (figs (b118 ns) (dayOf ns))) := by
  obtain ⟨_, h2, _, _⟩ := three_no h
  obtain ⟨_, hm⟩ := figs_list (n := monthV ns) (mod_lo _ (by decide)) (Int.lt_of_lt_of_le (mod_hi _ (by decide)) (by decide)) (b117 ns)
  obtain ⟨_, hd⟩ := figs_list (n := dayOf ns) (mod_lo _ (by decide)) (Int.lt_of_lt_of_le (mod_hi _ (by decide)) (by decide)) (b118 ns)
  have ht : ls (twoV ns) = [] ∨ ∃ s, ls (twoV ns) = [s] ∧ (s = 45 ∨ s = 47) := sep_list (mod_lo _ (by decide)) (mod_hi _ (by decide)) h2
  rcases ht with ht | ⟨s, ht, hs⟩
  · have hb : b117 ns = false := by
      have : twoV ns = Str.ofString "" := by rw [← tx_ls (twoV ns), ht]; rfl
      unfold b117
      rw [this]
      rfl
    rcases hm with ⟨x, _, _, hx⟩ | ⟨x, y, e, hx, hy⟩
    · rw [hb] at hx; cases hx
    · rw [e, ht]
      rcases hd with ⟨u, e2, hu, _⟩ | ⟨u, v, e2, hu, hv⟩ <;> rw [e2]
      · exact .n21 hx hy hu
      · exact .n22 hx hy hu hv
  · rw [ht]
    rcases hm with ⟨x, e, hx, _⟩ | ⟨x, y, e, hx, hy⟩ <;> rcases hd with ⟨u, e2, hu, _⟩ | ⟨u, v, e2, hu, hv⟩ <;> rw [e, e2]
    · exact .s11 hx hs hu
    · exact .s12 hx hs hu hv
    · exact .s21 hx hy hs hu
    · exact .s22 hx hy hs hu hv
/-- hour, colon, minutes of a clock -/
theorem hm_of (ns : List Int) : Rx.Hm (ls (figs (b125 ns) (hour0 ns)) ++ (ls (colV ns) ++ ls (two (min0 ns)))) (ls (figs (b125 ns) (hour0 ns))) (ls (colV ns)).length (ls (two (min0 ns))) := by
  obtain ⟨_, hh⟩ := figs_list (n := hour0 ns) (mod_lo _ (by decide)) (Int.lt_of_lt_of_le (mod_hi _ (by decide)) (by decide)) (b125 ns)
  obtain ⟨_, u, v, em, hu, hv⟩ := two_list (n := min0 ns) (mod_lo _ (by decide)) (Int.lt_of_lt_of_le (mod_hi _ (by decide)) (by decide))
  have hc : ls (colV ns) = [58] ∨ ls (colV ns) = [] ∧ b125 ns = false := by
    have h0 := mod_lo ((fx ns 4).fdiv 3) (b := 2) (by decide)
    have h1 := mod_hi ((fx ns 4).fdiv 3) (b := 2) (by decide)
    have hi : ((fx ns 4).fdiv 3).fmod 2 = 0 ∨ ((fx ns 4).fdiv 3).fmod 2 = 1 := by lia
    rcases hi with hi | hi
    · left; unfold colV; rw [hi]; rfl
    · right
      have e : colV ns = Str.ofString "" := by unfold colV; rw [hi]; rfl
      refine ⟨by rw [e]; rfl, ?_⟩
      unfold b125
      rw [e]
      rfl
  rw [em]
  rcases hc with hc | ⟨hc, hb⟩
  · rw [hc]
    rcases hh with ⟨x, e, hx, _⟩ | ⟨x, y, e, hx, hy⟩ <;> rw [e]
    · exact .one1 hx hu hv
    · exact .two1 hx hy hu hv
  · rw [hc]
    rcases hh with ⟨x, e, hx, hx2⟩ | ⟨x, y, e, hx, hy⟩
    · rw [hb] at hx2; cases hx2
    · rw [e]; exact .two0 hx hy hu hv
/-- the seconds -/
theorem secs_of (ns : List Int) : ∃ sc, Rx.Secs (ls (if mode ns = 2 then Str.ofString "" else col2V ns ++ two (s127 ns))) sc (if mode ns = 2 then none else some (ls (two (s127 ns)))) := by
  by_cases hm : mode ns = 2
  · rw [if_pos hm, if_pos hm]
    exact ⟨none, .no⟩
  · rw [if_neg hm, if_neg hm, ls_app]
    have hb := s127_bd (ns := ns)
    obtain ⟨_, u, v, em, hu, hv⟩ := two_list (n := s127 ns) hb.1 (by lia)
    rw [em]
    have h0 := mod_lo ((fx ns 4).fdiv 6) (b := 2) (by decide)
    have h1 := mod_hi ((fx ns 4).fdiv 6) (b := 2) (by decide)
    have hi : ((fx ns 4).fdiv 6).fmod 2 = 0 ∨ ((fx ns 4).fdiv 6).fmod 2 = 1 := by lia
    rcases hi with hi | hi
    · have e : ls (col2V ns) = [58] := by unfold col2V; rw [hi]; rfl
      rw [e]; exact ⟨some 1, .colon hu hv⟩
    · have e : ls (col2V ns) = [] := by unfold col2V; rw [hi]; rfl
      rw [e]; exact ⟨some 0, .bare hu hv⟩
/-- the separator of a clock -/
theorem sepC_of (ns : List Int) : (∃ x, ls (sepC ns) = [x] ∧ Rx.Cls.sep.has x = true ∧ isSpace x = false) ∨ (∀ x ∈ ls (sepC ns), isSpace x = true) ∧ 1 ≤ (ls (sepC ns)).length ∧ (ls (sepC ns)).length ≤ 100 := by
  have h0 := mod_lo ((fx ns 4).fdiv 12) (b := 6) (by decide)
  have h1 := mod_hi ((fx ns 4).fdiv 12) (b := 6) (by decide)
  have hi : ((fx ns 4).fdiv 12).fmod 6 = 0 ∨ ((fx ns 4).fdiv 12).fmod 6 = 1 ∨ ((fx ns 4).fdiv 12).fmod 6 = 2 ∨ ((fx ns 4).fdiv 12).fmod 6 = 3 ∨ ((fx ns 4).fdiv 12).fmod 6 = 4 ∨ ((fx ns 4).fdiv 12).fmod 6 = 5 := by lia
  unfold sepC
  rcases hi with hi | hi | hi | hi | hi | hi <;> rw [hi]
  · exact .inr (by decide +kernel)
  · exact .inl ⟨84, rfl, rfl, rfl⟩
  · exact .inl ⟨116, rfl, rfl, rfl⟩
  · exact .inl ⟨45, rfl, rfl, rfl⟩
  · exact .inl ⟨58, rfl, rfl, rfl⟩
  · exact .inr (by decide +kernel)
end Mine
end
section
set_option maxRecDepth 100000
set_option maxHeartbeats 1000000
namespace Mine
open PySem PySem.W PySem.Sre
theorem up_fix {l : List Nat} (h : ∀ c ∈ l, c < 97) : Txt.upper (tx l) = tx l := by
  rw [PyProof.Rows.upper_ascii (x := tx l) (fun c hc => by have := h c (by simpa [tx] using hc); lia)]
  unfold tx
  congr 1
  apply Array.toList_inj.mp
  simp only [Array.toList_map]
  conv => rhs; rw [← List.map_id l]
  refine List.map_congr_left fun c hc => ?_
  have := h c hc
  simp only [PyProof.Rows.up1, id]
  first | (rw [if_neg (by lia)]) | (simp; lia) | lia
theorem tx_len (l : List Nat) : (tx l).length = l.length := by show l.toArray.size = _; simp
/-- what the zone says -/
structure ZoneR (Z : List Nat) (r : Option Int) (one : Bool) : Prop where
  ex : ∃ z, Rx.Tail Z z ∧ inOk z ∧ (zt z = none ∧ r = some 0 ∨ ∃ u, zt z = some u ∧ u.length ≤ 60 ∧ (Txt.upper u).length ≤ 60 ∧ OffR (Txt.upper u) r)
  plain : Rx.Plain Z
  alone : one = true → ∀ (k : List Nat → Nat → Rx.Marks → Option Rx.Marks) (i : Nat) (L : Rx.Marks), (Rx.Re.opt Rx.clock).mt k Z i L = k Z i L
def inL2 (o : Option (Nat × Nat)) : Prop := match o with
  | some (a, b) => a ≤ b
  | none => True
theorem inOk_of {n : Nat} {t : List Nat} {o : Option (Nat × Nat)} {g : Nat} (h : inL2 o) : inOk (some (n, t, o, g)) := by
  rcases o with _ | ⟨a, b⟩
  · trivial
  · exact h
section
open Rx
variable {s1 f sp : List Nat} {o : Option (Nat × Nat)} {s : Nat} {r : Option Int} {one : Bool}
theorem zone_sign (h1 : s1 = [] ∨ s1 = [32]) (hs : s = 45 ∨ s = 43) (ho : one = true → s1 = [] → s = 43) (hf : Form f o) (hi : inL2 o) (hd : ∀ c ∈ f, c < 97) (hl : f.length ≤ 10) (hsp : ∀ x ∈ sp, isSpace x = true) (hl2 : sp.length ≤ 100) (hoff : OffR (tx (s :: f)) r) :
    ZoneR (s1 ++ (s :: f) ++ sp) r one := by
  have hsx : s < 97 ∧ isDigit s = false ∧ (s == 58) = false ∧ (s == 46) = false ∧ isSpace s = false := by rcases hs with rfl | rfl <;> decide
  have hb : ∀ x ∈ s1, isSpace x = true := by rcases h1 with rfl | rfl <;> simp <;> decide
  have hb2 : s1.length ≤ 100 := by rcases h1 with rfl | rfl <;> decide
  have hu : Txt.upper (tx (s :: f)) = tx (s :: f) := up_fix fun c hc => by
    rcases List.mem_cons.mp hc with rfl | hc
    · exact hsx.1
    · exact hd c hc
  refine ⟨⟨_, .yes hb (fun i L => tail_sign hb hb2 hs hf hsp hl2 i L), inOk_of hi, .inr ⟨tx (s :: f), rfl, ?_, ?_, ?_⟩⟩, ?_, ?_⟩
  · rw [tx_len, List.length_cons]; lia
  · rw [hu, tx_len, List.length_cons]; lia
  · rw [hu]; exact hoff
  · intro x r' e
    rcases h1 with rfl | rfl
    · simp only [List.nil_append, List.cons_append, List.cons.injEq] at e
      rw [← e.1]; exact ⟨hsx.2.1, hsx.2.2.1, hsx.2.2.2.1⟩
    · simp only [List.cons_append, List.nil_append, List.cons.injEq] at e
      rw [← e.1]; decide
  · intro h k i L
    rw [List.append_assoc]
    refine clock_none hb ?_ ?_
    · intro x r' e
      simp only [List.cons_append, List.cons.injEq] at e
      rw [← e.1]; exact hsx.2.1
    · intro x r' e
      simp only [List.cons_append, List.cons.injEq] at e
      rw [← e.1]
      refine ⟨hsx.2.2.2.2, fun e1 => ?_⟩
      rw [ho h e1]; decide
theorem zone_bare {a : Nat} (ha : isDigit a = true) (hf : Form (a :: f) o) (hi : inL2 o) (hd : ∀ c ∈ a :: f, c < 97) (hl : f.length ≤ 10) (hsp : ∀ x ∈ sp, isSpace x = true) (hl2 : sp.length ≤ 100) (hoff : OffR (tx (a :: f)) r) :
    ZoneR ([32] ++ (a :: f) ++ sp) r false := by
  have hb : ∀ x ∈ [32], isSpace x = true := by simp; decide
  have hu : Txt.upper (tx (a :: f)) = tx (a :: f) := up_fix hd
  refine ⟨⟨_, .yes hb (fun i L => tail_bare hb (by decide) ha hf hsp hl2 i L), inOk_of hi, .inr ⟨tx (a :: f), rfl, ?_, ?_, ?_⟩⟩, ?_, fun h => by cases h⟩
  · rw [tx_len, List.length_cons]; lia
  · rw [hu, tx_len, List.length_cons]; lia
  · rw [hu]; exact hoff
  · intro x r' e
    simp only [List.cons_append, List.nil_append, List.cons.injEq] at e
    rw [← e.1]; decide
theorem zone_z {x : Nat} (h1 : s1 = [] ∧ x = 90 ∨ s1 = [32, 9] ∧ x = 122) (hsp : ∀ x ∈ sp, isSpace x = true) (hl2 : sp.length ≤ 100) : ZoneR (s1 ++ [x] ++ sp) (some 0) one := by
  have hb : ∀ y ∈ s1, isSpace y = true := by rcases h1 with ⟨rfl, _⟩ | ⟨rfl, _⟩ <;> simp <;> decide
  have hb2 : s1.length ≤ 100 := by rcases h1 with ⟨rfl, _⟩ | ⟨rfl, _⟩ <;> decide
  have hx : x = 90 ∨ x = 122 := by rcases h1 with ⟨_, h⟩ | ⟨_, h⟩ <;> simp [h]
  have hu : Txt.upper (tx [x]) = tx [90] := by rcases hx with rfl | rfl <;> decide +kernel
  refine ⟨⟨_, .yes hb (fun i L => tail_z hb hb2 hx hsp hl2 i L), trivial, .inr ⟨tx [x], rfl, (show (1 : Nat) ≤ 60 by decide), by rw [hu, tx_len]; decide, ?_⟩⟩, ?_, ?_⟩
  · rw [hu]; exact .utc (by decide)
  · intro y r' e
    rcases h1 with ⟨rfl, rfl⟩ | ⟨rfl, rfl⟩ <;> (simp only [List.cons_append, List.nil_append, List.cons.injEq] at e; rw [← e.1]; decide)
  · intro h k i L
    rw [List.append_assoc]
    refine clock_none hb ?_ ?_
    · intro y r' e
      simp only [List.cons_append, List.nil_append, List.cons.injEq] at e
      rw [← e.1]; rcases hx with rfl | rfl <;> decide
    · intro y r' e
      simp only [List.cons_append, List.nil_append, List.cons.injEq] at e
      rw [← e.1]; rcases hx with rfl | rfl <;> exact ⟨by decide, fun _ => by decide⟩
theorem zone_no (hsp : ∀ x ∈ sp, isSpace x = true) (hl2 : sp.length ≤ 100) : ZoneR sp (some 0) one := by
  refine ⟨⟨none, .no hsp hl2, trivial, .inl ⟨rfl, rfl⟩⟩, ?_, ?_⟩
  · intro x r' e
    have hx := hsp x (by rw [e]; simp)
    refine ⟨sp_dig hx, sp_ne hx (by decide), sp_ne hx (by decide)⟩
  · intro h k i L
    have := clock_none (s1 := sp) (r := []) (k := k) (i := i) (L := L) hsp (fun x r' e => by cases e) (fun x r' e => by cases e)
    rwa [List.append_nil] at this
end
end Mine
end
section
set_option maxRecDepth 100000
set_option maxHeartbeats 2000000
namespace Mine
open PySem PySem.W PySem.Sre
/-- the zone's text -/
def zoneText (ns : List Int) : List Nat := ls (signT ns) ++ (ls (hT ns) ++ (ls (midT ns) ++ ls (mT ns)))
def offO (ns : List Int) : Option Int := if zoneV ns = 8 then none else some (60 * offV ns)
theorem zone_idx (ns : List Int) : zoneV ns = 0 ∨ zoneV ns = 1 ∨ zoneV ns = 2 ∨ zoneV ns = 3 ∨ zoneV ns = 4 ∨ zoneV ns = 5 ∨ zoneV ns = 6 ∨ zoneV ns = 7 ∨ zoneV ns = 8 ∨ zoneV ns = 9 ∨ zoneV ns = 10 ∨ zoneV ns = 11 := by
  have h0 := mod_lo (fx ns 8) (b := 12) (by decide)
  have h1 := mod_hi (fx ns 8) (b := 12) (by decide)
  unfold zoneV
  lia
theorem dash_ls (ns : List Int) : ∃ s1, ls (dashV ns) = s1 ++ [45] ∧ (s1 = [] ∨ s1 = [32]) ∧ (mode ns = 1 → s1 = [32]) := by
  unfold dashV
  by_cases h : mode ns ≠ 1 ∧ ((fx ns 8).fdiv 120000).fmod 2 = 1
  · rw [if_pos h]; exact ⟨[], rfl, .inl rfl, fun e => absurd e h.1⟩
  · rw [if_neg h]; exact ⟨[32], rfl, .inr rfl, fun _ => rfl⟩
theorem d97 {x : Nat} (h : isDigit x = true) : x < 97 := by
  simp only [isDigit, Bool.and_eq_true, decide_eq_true_eq] at h; lia
section
variable {ns : List Int} {sp : List Nat}
theorem off_eq {o1 o2 : Option Int} {x : Str} (h : OffR x o1) (e : o1 = o2) : OffR x o2 := e ▸ h
theorem zone_of (hsp : ∀ x ∈ sp, isSpace x = true) (hl2 : sp.length ≤ 100) : ZoneR (zoneText ns ++ sp) (offO ns) (decide (mode ns = 1)) := by
  have hh0 := hours0_bd (ns := ns)
  have hm0 : 0 ≤ mins0 ns ∧ mins0 ns < 100 := ⟨mod_lo _ (by decide), mod_hi _ (by decide)⟩
  obtain ⟨ih, a, b, eh, ha, hb⟩ := two_list hh0.1 hh0.2
  obtain ⟨im, c, d, em, hc, hd⟩ := two_list hm0.1 hm0.2
  have h9 : 0 ≤ (hours0 ns).fmod 10 ∧ (hours0 ns).fmod 10 < 10 := ⟨mod_lo _ (by decide), mod_hi _ (by decide)⟩
  have e9 : ∃ y, ls (numS ((hours0 ns).fmod 10)) = [y] ∧ isDigit y = true := by
    obtain ⟨n, hn⟩ := Int.eq_ofNat_of_zero_le h9.1
    rw [hn] at h9 ⊢
    exact ⟨_, numS_one (by lia), digit_of (by lia)⟩
  have i9 : PySem.intText? (numS ((hours0 ns).fmod 10)) = some ((hours0 ns).fmod 10) := KIN.num_reads h9.1 (by lia)
  obtain ⟨y, e9, hy⟩ := e9
  rw [← tx_ls (two (hours0 ns)), eh] at ih
  rw [← tx_ls (two (mins0 ns)), em] at im
  rw [← tx_ls (numS ((hours0 ns).fmod 10)), e9] at i9
  obtain ⟨s1, ed, hs1, hs2⟩ := dash_ls ns
  have hone : decide (mode ns = 1) = true → s1 = [] → (45 : Nat) = 43 := fun h e => by rw [hs2 (of_decide_eq_true h)] at e; cases e
  have n97 : ∀ l : List Nat, (∀ x ∈ l, isDigit x = true ∨ x = 58) → ∀ x ∈ l, x < 97 := fun l h x hx => by
    rcases h x hx with h | rfl
    · exact d97 h
    · decide
  rcases zone_idx ns with hz | hz | hz | hz | hz | hz | hz | hz | hz | hz | hz | hz
  · have e : zoneText ns ++ sp = sp := by unfold zoneText signT hT midT mT; rw [hz]; rfl
    have eo : offO ns = some 0 := by unfold offO offV hoursV minsV; rw [hz]; rfl
    rw [e, eo]; exact zone_no hsp hl2
  · have e : zoneText ns ++ sp = [] ++ [90] ++ sp := by unfold zoneText signT hT midT mT; rw [hz]; rfl
    have eo : offO ns = some 0 := by unfold offO offV hoursV minsV; rw [hz]; rfl
    rw [e, eo]; exact zone_z (.inl ⟨rfl, rfl⟩) hsp hl2
  · have e : zoneText ns ++ sp = [32, 9] ++ [122] ++ sp := by unfold zoneText signT hT midT mT; rw [hz]; rfl
    have eo : offO ns = some 0 := by unfold offO offV hoursV minsV; rw [hz]; rfl
    rw [e, eo]; exact zone_z (.inr ⟨rfl, rfl⟩) hsp hl2
  · have e : zoneText ns = [43] ++ (ls (two (hours0 ns)) ++ ([] ++ ls (two (mins0 ns)))) := by unfold zoneText signT hT midT mT hoursV minsV; rw [hz]; rfl
    have eo : offO ns = some (60 * (1 * (hours0 ns * 60 + mins0 ns))) := by unfold offO offV hoursV minsV; rw [hz]; rfl
    rw [e, eh, em, eo]
    exact zone_sign (s1 := []) (s := 43) (f := [a, b, c, d]) (.inl rfl) (.inr rfl) (fun _ _ => rfl) (Rx.form_hhmm ha hb hc hd) (show 2 ≤ 4 by decide) (n97 _ (by simp [ha, hb, hc, hd])) (by simp) hsp hl2 (off_eq (off_p_hhmm ha hb hc hd rfl ih im) (congrArg some (by simp; lia)))
  · have e : zoneText ns = ls (dashV ns) ++ (ls (two (hours0 ns)) ++ ([] ++ ls (two (mins0 ns)))) := by unfold zoneText signT hT midT mT hoursV minsV; rw [hz]; rfl
    have eo : offO ns = some (60 * (-1 * (hours0 ns * 60 + mins0 ns))) := by unfold offO offV hoursV minsV; rw [hz]; rfl
    rw [e, ed, eh, em, eo]
    rw [show (s1 ++ [45]) ++ ([a, b] ++ ([] ++ [c, d])) = s1 ++ (45 :: [a, b, c, d]) from by simp]
    exact zone_sign (s1 := s1) (s := 45) (f := [a, b, c, d]) hs1 (.inl rfl) hone (Rx.form_hhmm ha hb hc hd) (show 2 ≤ 4 by decide) (n97 _ (by simp [ha, hb, hc, hd])) (by simp) hsp hl2 (off_eq (off_m_hhmm ha hb hc hd rfl ih im) (congrArg some (by simp; lia)))
  · have e : zoneText ns = ls (dashV ns) ++ (ls (two (hours0 ns)) ++ ([58] ++ ls (two (mins0 ns)))) := by unfold zoneText signT hT midT mT hoursV minsV; rw [hz]; rfl
    have eo : offO ns = some (60 * (-1 * (hours0 ns * 60 + mins0 ns))) := by unfold offO offV hoursV minsV; rw [hz]; rfl
    rw [e, ed, eh, em, eo]
    rw [show (s1 ++ [45]) ++ ([a, b] ++ ([58] ++ [c, d])) = s1 ++ (45 :: [a, b, 58, c, d]) from by simp]
    exact zone_sign (s1 := s1) (s := 45) (f := [a, b, 58, c, d]) hs1 (.inl rfl) hone (Rx.form_hhcmm ha hb hc hd) (show 3 ≤ 5 by decide) (n97 _ (by simp [ha, hb, hc, hd])) (by simp) hsp hl2 (off_eq (off_m_hhcmm ha hb hc hd rfl ih im) (congrArg some (by simp; lia)))
  · have e : zoneText ns = [43] ++ (ls (two (hours0 ns)) ++ ([] ++ [])) := by unfold zoneText signT hT midT mT hoursV minsV; rw [hz]; rfl
    have eo : offO ns = some (60 * (1 * (hours0 ns * 60 + 0))) := by unfold offO offV hoursV minsV; rw [hz]; rfl
    rw [e, eh, eo]
    rw [show [43] ++ ([a, b] ++ ([] ++ [])) = [] ++ (43 :: [a, b]) from by simp]
    exact zone_sign (s1 := []) (s := 43) (f := [a, b]) (.inl rfl) (.inr rfl) (fun _ _ => rfl) (Rx.form_hh ha hb) trivial (n97 _ (by simp [ha, hb])) (by simp) hsp hl2 (off_eq (off_p_hh ha hb rfl ih) (congrArg some (by simp; lia)))
  · have e : zoneText ns = [43] ++ (ls (two (hours0 ns)) ++ ([58] ++ [])) := by unfold zoneText signT hT midT mT hoursV minsV; rw [hz]; rfl
    have eo : offO ns = some (60 * (1 * (hours0 ns * 60 + 0))) := by unfold offO offV hoursV minsV; rw [hz]; rfl
    rw [e, eh, eo]
    rw [show [43] ++ ([a, b] ++ ([58] ++ [])) = [] ++ (43 :: [a, b, 58]) from by simp]
    exact zone_sign (s1 := []) (s := 43) (f := [a, b, 58]) (.inl rfl) (.inr rfl) (fun _ _ => rfl) (Rx.form_hhc ha hb) trivial (n97 _ (by simp [ha, hb])) (by simp) hsp hl2 (off_eq (off_p_hhc ha hb rfl ih) (congrArg some (by simp; lia)))
  · have e : zoneText ns = ls (dashV ns) ++ (ls (two (hours0 ns)) ++ ([58, 58] ++ ls (two (mins0 ns)))) := by unfold zoneText signT hT midT mT hoursV minsV; rw [hz]; rfl
    have eo : offO ns = none := by unfold offO offV hoursV minsV; rw [hz]; rfl
    rw [e, ed, eh, em, eo]
    rw [show (s1 ++ [45]) ++ ([a, b] ++ ([58, 58] ++ [c, d])) = s1 ++ (45 :: [a, b, 58, 58, c, d]) from by simp]
    exact zone_sign (s1 := s1) (s := 45) (f := [a, b, 58, 58, c, d]) hs1 (.inl rfl) hone (Rx.form_hhccmm ha hb hc hd) (show 3 ≤ 6 by decide) (n97 _ (by simp [ha, hb, hc, hd])) (by simp) hsp hl2 (off_m_cc ha hb hc hd rfl )
  · have e : zoneText ns = ls (dashV ns) ++ (ls (numS ((hours0 ns).fmod 10)) ++ ([] ++ [])) := by unfold zoneText signT hT midT mT hoursV minsV; rw [hz]; rfl
    have eo : offO ns = some (60 * (-1 * ((hours0 ns).fmod 10 * 60 + 0))) := by unfold offO offV hoursV minsV; rw [hz]; rfl
    rw [e, ed, e9, eo]
    rw [show (s1 ++ [45]) ++ ([y] ++ ([] ++ [])) = s1 ++ (45 :: [y]) from by simp]
    exact zone_sign (s1 := s1) (s := 45) (f := [y]) hs1 (.inl rfl) hone (Rx.form_h hy) trivial (n97 _ (by simp [hy])) (by simp) hsp hl2 (off_eq (off_m_h hy rfl i9) (congrArg some (by simp; lia)))
  · have e : zoneText ns = ls (dashV ns) ++ (ls (numS ((hours0 ns).fmod 10)) ++ ([58] ++ ls (two (mins0 ns)))) := by unfold zoneText signT hT midT mT hoursV minsV; rw [hz]; rfl
    have eo : offO ns = some (60 * (-1 * ((hours0 ns).fmod 10 * 60 + mins0 ns))) := by unfold offO offV hoursV minsV; rw [hz]; rfl
    rw [e, ed, e9, em, eo]
    rw [show (s1 ++ [45]) ++ ([y] ++ ([58] ++ [c, d])) = s1 ++ (45 :: [y, 58, c, d]) from by simp]
    exact zone_sign (s1 := s1) (s := 45) (f := [y, 58, c, d]) hs1 (.inl rfl) hone (Rx.form_hcmm hy hc hd) (show 2 ≤ 4 by decide) (n97 _ (by simp [hy, hc, hd])) (by simp) hsp hl2 (off_eq (off_m_hcmm hy hc hd rfl i9 im) (congrArg some (by simp; lia)))
  · have e : zoneText ns = ls (bareV ns) ++ (ls (two (hours0 ns)) ++ ([] ++ ls (two (mins0 ns)))) := by unfold zoneText signT hT midT mT hoursV minsV; rw [hz]; rfl
    have eo : offO ns = some (60 * (1 * (hours0 ns * 60 + mins0 ns))) := by unfold offO offV hoursV minsV; rw [hz]; rfl
    by_cases hm : mode ns = 0
    · have eb : ls (bareV ns) = [32] := by unfold bareV; rw [if_pos hm]; rfl
      rw [e, eb, eh, em, eo, decide_eq_false (show ¬ mode ns = 1 by lia)]
      exact zone_bare (f := [b, c, d]) ha (Rx.form_hhmm ha hb hc hd) (show 2 ≤ 4 by decide) (n97 _ (by simp [ha, hb, hc, hd])) (by simp) hsp hl2 (off_eq (off_n_hhmm ha hb hc hd rfl ih im) (congrArg some (by simp; lia)))
    · have eb : ls (bareV ns) = [32] ++ [43] := by unfold bareV; rw [if_neg hm]; rfl
      rw [e, eb, eh, em, eo]
      rw [show ([32] ++ [43]) ++ ([a, b] ++ ([] ++ [c, d])) = [32] ++ (43 :: [a, b, c, d]) from by simp]
      exact zone_sign (s1 := [32]) (s := 43) (f := [a, b, c, d]) (.inr rfl) (.inr rfl) (fun _ _ => rfl) (Rx.form_hhmm ha hb hc hd) (show 2 ≤ 4 by decide) (n97 _ (by simp [ha, hb, hc, hd])) (by simp) hsp hl2 (off_eq (off_p_hhmm ha hb hc hd rfl ih im) (congrArg some (by simp; lia)))
end
end Mine
end
section
set_option maxRecDepth 100000
set_option maxHeartbeats 2000000
namespace Mine
open PySem PySem.W PySem.Sre
theorem lstrip_of {x : Str} {sp r : List Nat} {y : Nat} (hx : ls x = sp ++ y :: r) (hsp : ∀ c ∈ sp, Unicode.isSpace c = true) (hy : Unicode.isSpace y = false) : ls (Txt.lstrip x) = y :: r := by
  have lo : stripLo Unicode.isSpace true x = sp.length := by
    simp only [stripLo, if_true]
    rw [show x.cps.toList = sp ++ y :: r from hx, List.takeWhile_append_of_pos hsp, List.takeWhile_cons, hy]
    simp
  unfold Txt.lstrip Txt.stripBy stripSame PySem.stripped
  have hi : ∀ l, stripHi Unicode.isSpace false x l = x.length := fun _ => rfl
  rw [lo, hi]
  split
  · rename_i h
    simp only [Bool.and_eq_true, beq_iff_eq] at h
    have : sp = [] := List.length_eq_zero_iff.mp h.1
    rw [hx, this]; rfl
  · show (x.cps.extract sp.length x.length).toList = _
    have e : x.cps = (sp ++ y :: r).toArray := by rw [← hx]
    have el : x.length = (sp ++ y :: r).length := by rw [← hx, ls_len]
    rw [el, e]
    simp
def clockL (ns : List Int) : List Nat := if mode ns = 1 then [] else ls (sepC ns) ++ ((ls (figs (b125 ns) (hour0 ns)) ++ (ls (colV ns) ++ ls (two (min0 ns)))) ++ ls (if mode ns = 2 then Str.ofString "" else col2V ns ++ two (s127 ns)))
def restL (ns : List Int) : List Nat := ls (numS (yearV ns)) ++ (ls (oneV ns) ++ ((ls (figs (b117 ns) (monthV ns)) ++ (ls (twoV ns) ++ ls (figs (b118 ns) (dayOf ns)))) ++ (clockL ns ++ (zoneText ns ++ ls (postT (((fx ns 0).fdiv 64).fmod 4))))))
theorem text_ls (ns : List Int) : ls (t138 ns) = ls (preT (((fx ns 0).fdiv 16).fmod 4)) ++ restL ns := by
  have hc : ls (tClock ns) = ls (t118 ns) ++ clockL ns := by
    unfold tClock clockL
    by_cases h : mode ns = 1
    · rw [if_pos h, if_pos h, List.append_nil]
    · rw [if_neg h, if_neg h]
      unfold t128 t126 t125 t124
      simp only [ls_app, List.append_assoc]
  unfold t138 t137 t136 t135 t134
  simp only [ls_app, hc]
  unfold t118 t117 t116 restL zoneText
  simp only [ls_app, List.append_assoc]
theorem year_bd (ns : List Int) : 1000 ≤ yearV ns ∧ yearV ns < 10000 := by
  have := mod_lo (fx ns 1 + 970) (b := 9000) (by decide)
  exact ⟨by unfold yearV; lia, year_hi⟩
theorem idx4 (a : Int) : a.fmod 4 = 0 ∨ a.fmod 4 = 1 ∨ a.fmod 4 = 2 ∨ a.fmod 4 = 3 := by
  have h0 := mod_lo a (b := 4) (by decide)
  have h1 := mod_hi a (b := 4) (by decide)
  lia
theorem dig_nosp {y : Nat} (h : isDigit y = true) : Unicode.isSpace y = false := by
  simp only [isDigit, Bool.and_eq_true, decide_eq_true_eq] at h
  have k : ∀ r : Fin 10, Unicode.isSpace (48 + r.val) = false := by decide +kernel
  have := k ⟨y - 48, by lia⟩
  rwa [show 48 + (y - 48) = y by lia] at this
/-- the text without blanks ahead -/
theorem strip_ls (ns : List Int) : ((fx ns 0).fdiv 16).fmod 4 = 3 ∧ ls (Txt.lstrip (t138 ns)) = [120, 32] ++ restL ns ∨ ((fx ns 0).fdiv 16).fmod 4 ≠ 3 ∧ ls (Txt.lstrip (t138 ns)) = restL ns := by
  have hy := year_bd ns
  obtain ⟨a, b, c, d, ey, ha, hb, hc, hd⟩ := year_figs hy.1 hy.2
  have hr : ∃ r, restL ns = a :: r := by unfold restL; rw [ey]; exact ⟨_, rfl⟩
  obtain ⟨r, hr⟩ := hr
  have ht := text_ls ns
  rcases idx4 ((fx ns 0).fdiv 16) with h | h | h | h
  · right
    rw [h] at ht ⊢
    exact ⟨by decide, by rw [hr]; exact lstrip_of (sp := []) (by rw [ht, hr]; rfl) (by simp) (dig_nosp ha)⟩
  · right
    rw [h] at ht ⊢
    exact ⟨by decide, by rw [hr]; exact lstrip_of (sp := [32]) (by rw [ht, hr]; rfl) (by decide +kernel) (dig_nosp ha)⟩
  · right
    rw [h] at ht ⊢
    exact ⟨by decide, by rw [hr]; exact lstrip_of (sp := [10, 32]) (by rw [ht, hr]; rfl) (by decide +kernel) (dig_nosp ha)⟩
  · left
    rw [h] at ht ⊢
    exact ⟨rfl, lstrip_of (sp := []) (y := 120) (r := 32 :: restL ns) (by rw [ht]; rfl) (by simp) (by decide +kernel)⟩
theorem found_no {x : Str} (h : Rx.iso.mt Rx.fin (ls x) 0 [] = none) : Rx.found Rx.iso 6 x.cps = none := by
  unfold Rx.found
  split
  · rfl
  · exact h
/-- what no date is by its signs -/
theorem none_of {ns : List Int} (h : three ns = true) : Rx.found Rx.iso 6 (Txt.lstrip (t138 ns)).cps = none := by
  have hy := year_bd ns
  obtain ⟨a, b, c, d, ey, ha, hb, hc, hd⟩ := year_figs hy.1 hy.2
  refine found_no ?_
  rcases strip_ls ns with ⟨_, e⟩ | ⟨hp, e⟩
  · rw [e]; exact Rx.iso_x (by simp [Rx.allowed, isDigit, isSpace])
  rw [e]
  by_cases h64 : ((fx ns 0).fdiv 64).fmod 4 = 3
  · refine Rx.iso_x ?_
    unfold restL
    rw [h64, List.all_eq_false]
    exact ⟨120, by simp [show ls (postT 3) = [32, 120] from rfl], by decide⟩
  unfold restL
  rw [ey]
  by_cases h0 : (fx ns 0).fmod 4 = 3
  · have e1 : ls (oneV ns) = [46] := by unfold oneV; rw [h0]; rfl
    rw [e1]
    exact Rx.point_one ha hb hc hd
  have h4 : ((fx ns 0).fdiv 4).fmod 4 = 3 := by
    simp only [three, inL, List.any_cons, List.any_nil, Bool.or_false, Bool.or_eq_true, beq_iff_eq] at h
    lia
  have e2 : ls (twoV ns) = [46] := by unfold twoV; rw [h4]; rfl
  obtain ⟨_, hm⟩ := figs_list (n := monthV ns) (mod_lo _ (by decide)) (Int.lt_of_lt_of_le (mod_hi _ (by decide)) (by decide)) (b117 ns)
  have ho : ls (oneV ns) = [] ∨ ∃ s, ls (oneV ns) = [s] ∧ (s = 45 ∨ s = 47) := sep_list (mod_lo _ (by decide)) (mod_hi _ (by decide)) h0
  rw [e2]
  rcases ho with e1 | ⟨s, e1, hs⟩ <;> rw [e1] <;> rcases hm with ⟨x, e3, hx, _⟩ | ⟨x, y, e3, hx, hy2⟩ <;> rw [e3]
  · exact Rx.point_two_n ha hb hc hd hx fun i L => Rx.kMon_pt1 hx
  · exact Rx.point_two_n ha hb hc hd hx fun i L => Rx.kMon_pt2 hx hy2
  · exact Rx.point_two_s ha hb hc hd hs fun i L => Rx.kMon_pt1 hx
  · exact Rx.point_two_s ha hb hc hd hs fun i L => Rx.kMon_pt2 hx hy2
end Mine
end
section
set_option maxRecDepth 100000
set_option maxHeartbeats 2000000
namespace Mine
open PySem PySem.W PySem.Sre
theorem dig_bd {y : Nat} (h : isDigit y = true) : 48 ≤ y ∧ y ≤ 57 := by
  simp only [isDigit, Bool.and_eq_true, decide_eq_true_eq] at h; lia
theorem fig_facts {n : Int} (h0 : 0 ≤ n) (h1 : n < 100) (b : Bool) : PySem.intText? (figs b n) = some n ∧ (figs b n).length ≤ 640 ∧ KXs.Still (figs b n) ∧ figHead (figs b n) = true ∧ (reprText (figs b n)).length ≤ 100 := by
  obtain ⟨i, h⟩ := figs_list h0 h1 b
  have hd : ∀ c ∈ ls (figs b n), 48 ≤ c ∧ c ≤ 57 := by
    rcases h with ⟨x, e, hx, _⟩ | ⟨x, y, e, hx, hy⟩ <;> rw [e] <;> intro c hc
    · rw [List.mem_singleton.mp hc]; exact dig_bd hx
    · rcases List.mem_cons.mp hc with rfl | hc
      · exact dig_bd hx
      · rw [List.mem_singleton.mp hc]; exact dig_bd hy
  have hl : (figs b n).length ≤ 2 := by
    rw [← ls_len]
    rcases h with ⟨x, e, _, _⟩ | ⟨x, y, e, _, _⟩ <;> simp [e]
  refine ⟨i, by lia, fun c hc => ?_, ?_, ?_⟩
  · have := hd c hc; lia
  · unfold figHead
    split
    · rename_i c hc
      have : c ∈ ls (figs b n) := Array.mem_toList_iff.mpr (Array.mem_of_getElem? hc)
      have := hd c this
      exact decide_eq_true (by lia)
    · rfl
  · have := StrLaws.reprText_len (figs b n) fun c hc => by have := hd c hc; lia
    lia
theorem year_facts (ns : List Int) : PySem.intText? (numS (yearV ns)) = some (yearV ns) ∧ (numS (yearV ns)).length ≤ 640 := by
  have hy := year_bd ns
  exact ⟨KIN.num_reads (by lia) (by lia), Nat.le_trans (numS_len (by lia) (by lia)) (by decide)⟩
theorem post_sp {ns : List Int} (h : ((fx ns 0).fdiv 64).fmod 4 ≠ 3) : (∀ x ∈ ls (postT (((fx ns 0).fdiv 64).fmod 4)), isSpace x = true) ∧ (ls (postT (((fx ns 0).fdiv 64).fmod 4))).length ≤ 100 := by
  rcases idx4 ((fx ns 0).fdiv 64) with e | e | e | e
  · rw [e]; exact ⟨by decide +kernel, by decide +kernel⟩
  · rw [e]; exact ⟨by decide +kernel, by decide +kernel⟩
  · rw [e]; exact ⟨by decide +kernel, by decide +kernel⟩
  · exact absurd e h
theorem yes_of {ns : List Int} (h : three ns = false) : IsoR (Txt.lstrip (t138 ns)) (dayV (yearV ns) (monthV ns) (dayOf ns) (hourV ns) (minV ns) (secV ns) (offO ns)) := by
  obtain ⟨h0, h4, h16, h64⟩ := three_no h
  obtain ⟨hsp, hl2⟩ := post_sp h64
  obtain ⟨⟨z, hz, hi, hoz⟩, hpl, hal⟩ := zone_of (ns := ns) hsp hl2
  have hy := year_bd ns
  obtain ⟨a, b, c, d, ey, ha, hb, hc, hd⟩ := year_figs hy.1 hy.2
  have e : ls (Txt.lstrip (t138 ns)) = restL ns := by
    rcases strip_ls ns with ⟨e, _⟩ | ⟨_, e⟩
    · exact absurd e h16
    · exact e
  unfold restL at e
  rw [ey] at e
  have ho : ls (oneV ns) = [] ∨ ∃ s, ls (oneV ns) = [s] ∧ (s = 45 ∨ s = 47) := sep_list (mod_lo _ (by decide)) (mod_hi _ (by decide)) h0
  have fm := fig_facts (n := monthV ns) (mod_lo _ (by decide)) (Int.lt_of_lt_of_le (mod_hi _ (by decide)) (by decide)) (b117 ns)
  have fd := fig_facts (n := dayOf ns) (mod_lo _ (by decide)) (Int.lt_of_lt_of_le (mod_hi _ (by decide)) (by decide)) (b118 ns)
  have fy := year_facts ns
  have ety : tx [a, b, c, d] = numS (yearV ns) := by rw [← ey, tx_ls]
  generalize hZ : zoneText ns ++ ls (postT (((fx ns 0).fdiv 64).fmod 4)) = Z at *
  have zone : zt z = none ∧ offO ns = some 0 ∨ ∃ u, zt z = some u ∧ u.length ≤ 60 ∧ (Txt.upper u).length ≤ 60 ∧ OffR (Txt.upper u) (offO ns) := hoz
  by_cases hm : mode ns = 1
  · have ec : clockL ns = [] := by unfold clockL; rw [if_pos hm]
    rw [ec, List.nil_append] at e
    obtain ⟨L, l1, l2, g0, g1, g2, g3, g4, g5, g6⟩ := iso_noclock ha hb hc hd ho (md_of h) (fun x r hx => (hpl x r hx).1) hz hi (fun i L => hal (decide_eq_true hm) _ i L) e
    rw [ety] at g0
    rw [tx_ls] at g1 g2
    have hh : hourV ns = 0 := by unfold hourV; rw [if_pos hm]
    have hmi : minV ns = 0 := by unfold minV; rw [if_pos hm]
    have hs : secV ns = 0 := by unfold secV; rw [if_pos hm]
    rw [hh, hmi, hs]
    exact .yes l1 l2 g0 g1 g2 g3 g4 g5 g6 ⟨fd.1, fd.2.1, fm.1, fm.2.1, fy.1, fy.2, hy.1, hy.2, fm.2.2.1, fm.2.2.2.1, fm.2.2.2.2, .none, .none, .none, zone⟩
  · have ec : clockL ns = ls (sepC ns) ++ ((ls (figs (b125 ns) (hour0 ns)) ++ (ls (colV ns) ++ ls (two (min0 ns)))) ++ ls (if mode ns = 2 then Str.ofString "" else col2V ns ++ two (s127 ns))) := by unfold clockL; rw [if_neg hm]
    obtain ⟨sc, hsecs⟩ := secs_of ns
    have e' : ls (Txt.lstrip (t138 ns)) = [a, b, c, d] ++ (ls (oneV ns) ++ ((ls (figs (b117 ns) (monthV ns)) ++ (ls (twoV ns) ++ ls (figs (b118 ns) (dayOf ns)))) ++ (ls (sepC ns) ++ ((ls (figs (b125 ns) (hour0 ns)) ++ (ls (colV ns) ++ ls (two (min0 ns)))) ++ (ls (if mode ns = 2 then Str.ofString "" else col2V ns ++ two (s127 ns)) ++ Z))))) := by
      rw [e, ec]; simp only [List.append_assoc]
    have hS := sepC_of ns
    have hnf : Rx.NoFig (ls (sepC ns) ++ ((ls (figs (b125 ns) (hour0 ns)) ++ (ls (colV ns) ++ ls (two (min0 ns)))) ++ (ls (if mode ns = 2 then Str.ofString "" else col2V ns ++ two (s127 ns)) ++ Z))) := by
      intro x r hx
      rcases hS with ⟨y, ey2, hy2, hy3⟩ | ⟨hb2, hl3, _⟩
      · rw [ey2] at hx
        simp only [List.cons_append, List.nil_append, List.cons.injEq] at hx
        rw [← hx.1]
        simp only [Rx.Cls.has, Bool.or_eq_true, beq_iff_eq] at hy2
        rcases hy2 with ((rfl | rfl) | rfl) | rfl <;> decide
      · generalize ls (sepC ns) = q at hx hb2 hl3
        match q, hl3 with
        | y :: q', _ =>
          simp only [List.cons_append, List.cons.injEq] at hx
          rw [← hx.1]
          exact Rx.sp_dig (hb2 y (List.mem_cons_self ..))
    obtain ⟨L, l1, l2, g0, g1, g2, g3, g4, g5, g6⟩ := iso_clock ha hb hc hd ho (md_of h) hS (hm_of ns) hsecs hpl hnf hz hi e'
    rw [ety] at g0
    rw [tx_ls] at g1 g2 g3 g4
    have fh := fig_facts (n := hour0 ns) (mod_lo _ (by decide)) (Int.lt_of_lt_of_le (mod_hi _ (by decide)) (by decide)) (b125 ns)
    have fmi := fig_facts (n := min0 ns) (mod_lo _ (by decide)) (Int.lt_of_lt_of_le (mod_hi _ (by decide)) (by decide)) false
    have bs := s127_bd (ns := ns)
    have fs := fig_facts (n := s127 ns) bs.1 (by lia) false
    have hh : hourV ns = hour0 ns := by unfold hourV; rw [if_neg hm]
    have hmi : minV ns = min0 ns := by unfold minV; rw [if_neg hm]
    have hs : secV ns = s127 ns := by unfold secV; rw [if_neg hm]
    have ns5 : NumR ((if mode ns = 2 then none else some (ls (two (s127 ns)))).map tx) (s127 ns) := by
      by_cases h2 : mode ns = 2
      · rw [if_pos h2, show s127 ns = 0 by unfold s127; rw [if_pos h2]]
        exact .none
      · rw [if_neg h2]
        show NumR (some (tx (ls (two (s127 ns))))) _
        rw [tx_ls]
        exact .some fs.1 fs.2.1
    rw [hh, hmi, hs]
    exact .yes l1 l2 g0 g1 g2 g3 g4 g5 g6 ⟨fd.1, fd.2.1, fm.1, fm.2.1, fy.1, fy.2, hy.1, hy.2, fm.2.2.1, fm.2.2.2.1, fm.2.2.2.2, .some fh.1 fh.2.1, .some fmi.1 fmi.2.1, ns5, zone⟩
theorem ord_epoch : daysV 1970 1 = 719163 + 365 := by rw [daysV_eq (by decide) (by decide) (by decide)]; decide +kernel
theorem due_eq {ns : List Int} (h : three ns = false) : dayV (yearV ns) (monthV ns) (dayOf ns) (hourV ns) (minV ns) (secV ns) (offO ns) = dueV ns := by
  have hh := hourV_bd (ns := ns)
  have hm := minV_bd (ns := ns)
  have hs := secV_bd (ns := ns)
  unfold dayV dueV
  by_cases hb : badDay ns = true
  · rw [if_pos hb]
    have hb' := of_decide_eq_true hb
    by_cases hi : InDay (yearV ns) (monthV ns) (dayOf ns) (hourV ns) (minV ns) (secV ns)
    · rw [if_pos hi]
      have hz : zoneV ns = 8 := by
        rcases hb' with h1 | h1 | h1 | h1
        · exact absurd ⟨hi.2.2.2.1, hi.2.2.2.2.1⟩ h1
        · exact absurd ⟨hi.2.1, hi.2.2.1⟩ h1
        · exact absurd hi.1 (Int.not_le.mpr h1)
        · exact h1
      unfold offO
      rw [if_pos hz]
    · rw [if_neg hi]
  · rw [if_neg hb]
    have hb' : badDay ns = false := by simpa using hb
    obtain ⟨⟨d1, d2⟩, ⟨m1, m2⟩, y1, z1⟩ := good_day hb'
    by_cases hc : badClock ns = true
    · rw [if_pos hc]
      have hc' : hourV ns > 24 ∨ minV ns > 59 ∨ secV ns > 61 := by
        unfold badClock at hc
        rw [h, Bool.or_false] at hc
        exact of_decide_eq_true hc
      rw [if_neg (fun q => by
        rcases hc' with h1 | h1 | h1
        · exact absurd q.2.2.2.2.2.2.1 (Int.not_le.mpr h1)
        · exact absurd q.2.2.2.2.2.2.2.2.1 (Int.not_le.mpr h1)
        · exact absurd q.2.2.2.2.2.2.2.2.2.2 (Int.not_le.mpr h1))]
    · rw [if_neg hc]
      have hc' : ¬ (hourV ns > 24 ∨ minV ns > 59 ∨ secV ns > 61) := by
        unfold badClock at hc
        rw [h, Bool.or_false] at hc
        exact fun x => hc (decide_eq_true x)
      rw [if_pos ⟨y1, m1, m2, d1, d2, hh.1, Int.not_lt.mp fun q => hc' (Or.inl q), hm.1, Int.not_lt.mp fun q => hc' (Or.inr (Or.inl q)), hs.1, Int.not_lt.mp fun q => hc' (Or.inr (Or.inr q))⟩]
      unfold offO
      rw [if_neg z1]
      show some (secs _ _ _ _ _ _ - 60 * offV ns) = some (dueI ns)
      unfold secs dueI
      rw [ord_epoch, daysV_eq (by lia) m1 m2]
      congr 1
      lia
theorem due_none {ns : List Int} (h : three ns = true) : dueV ns = none := by
  unfold dueV
  have : badClock ns = true := by unfold badClock; rw [h]; exact Bool.or_true _
  split
  · rfl
  · first | rfl | rw [if_pos this]
theorem figs_two {n : Int} (h0 : 0 ≤ n) (h1 : n < 100) (b : Bool) : (figs b n).length ≤ 2 := by
  obtain ⟨_, h⟩ := figs_list h0 h1 b
  rw [← ls_len]
  rcases h with ⟨x, e, _, _⟩ | ⟨x, y, e, _, _⟩ <;> simp [e]
theorem plain_len (ns : List Int) : (t138 ns).length ≤ 60 := by
  have hy := year_bd ns
  obtain ⟨a, b, c, d, ey, _⟩ := year_figs hy.1 hy.2
  have ly : (numS (yearV ns)).length = 4 := by rw [← ls_len, ey]; rfl
  have l1 : (preT (((fx ns 0).fdiv 16).fmod 4)).length ≤ 4 := tab_len (by decide +kernel)
  have l2 : (oneV ns).length ≤ 4 := tab_len (by decide +kernel)
  have l3 := figs_two (n := monthV ns) (mod_lo _ (by decide)) (Int.lt_of_lt_of_le (mod_hi _ (by decide)) (by decide)) (b117 ns)
  have l4 : (twoV ns).length ≤ 4 := tab_len (by decide +kernel)
  have l5 := figs_two (n := dayOf ns) (mod_lo _ (by decide)) (Int.lt_of_lt_of_le (mod_hi _ (by decide)) (by decide)) (b118 ns)
  have l6 : (sepC ns).length ≤ 4 := tab_len (by decide +kernel)
  have l7 := figs_two (n := hour0 ns) (mod_lo _ (by decide)) (Int.lt_of_lt_of_le (mod_hi _ (by decide)) (by decide)) (b125 ns)
  have l8 : (colV ns).length ≤ 4 := tab_len (by decide +kernel)
  have l9 := two_len (min0 ns)
  have l10 : (col2V ns).length ≤ 4 := tab_len (by decide +kernel)
  have l11 := two_len (s127 ns)
  have l12 := sign_len (ns := ns)
  have l13 : (hT ns).length ≤ 2 := by
    have hb := hoursV_bd (ns := ns)
    unfold hT
    split
    · decide +kernel
    · split
      · exact figs_two hb.1 hb.2 true
      · exact two_len _
  have l14 : (midT ns).length ≤ 4 := tab_len (by decide +kernel)
  have l15 : (mT ns).length ≤ 2 := by
    unfold mT
    split
    · exact two_len _
    · decide +kernel
  have l16 : (postT (((fx ns 0).fdiv 64).fmod 4)).length ≤ 4 := tab_len (by decide +kernel)
  have k18 : (t118 ns).length ≤ 20 := by
    unfold t118 t117 t116
    simp only [app_len]
    lia
  have kc : (tClock ns).length ≤ 40 := by
    unfold tClock
    split
    · lia
    · unfold t128 t126 t125 t124
      simp only [app_len]
      split
      · have e0 : (Str.ofString "").length = 0 := rfl
        lia
      · rw [app_len]; lia
  unfold t138 t137 t136 t135 t134
  simp only [app_len]
  lia
theorem plain (ns : List Int) : (t138 ns).length ≤ 60 ∧ IsoR (Txt.lstrip (t138 ns)) (dueV ns) := by
  refine ⟨plain_len ns, ?_⟩
  cases h : three ns with
  | true => rw [due_none h]; exact .no (none_of h)
  | false => rw [← due_eq h]; exact yes_of h
end Mine
end
section
set_option maxRecDepth 100000
set_option maxHeartbeats 2000000

namespace Mine
open PySem PySem.W PyProof.Rows PySem.Spec PySem.Calls
local macro_rules | `(tactic| o_law) => `(tactic| refine holds_law Mine.said fun said => ?_)
local macro_rules | `(tactic| k_head) => `(tactic| (
  rename_i said; refine holds_open (q := vw) (loose := lse) (Xt := fun s => xlAt vw lvs s && recOk [] s) (XP := XL vw lvs)
    (Yf := Hook.obs (kHook mk.heap_1 addrs addrs_eq)) (Ya := Hook.val (kHook mk.heap_1 addrs addrs_eq)) (YP := Hook.says (kHook mk.heap_1 addrs addrs_eq)) (N := 3240) left (Hook.of (kHook mk.heap_1 addrs addrs_eq)) (Hook.keeps (kHook mk.heap_1 addrs addrs_eq)) (fun s e => xl_of s (Bool.and_eq_true_iff.mp e).1) XL.keeps (by rfl) (by rfl) (by rfl) (fun s e => recFacts_of (Bool.and_eq_true_iff.mp e).2) (by rfl) (by assumption) (by decide +kernel) ⟨rfl, rfl, rfl, rfl, rfl, by decide +kernel⟩ ?hw ?hc; all_goals clear said))
local macro_rules | `(tactic| walk_at "execs cons") => `(tactic| (k_here; (try dsimp only); k_gentoks))
structure FreezeOn : Prop where
local macro_rules | `(tactic| walk_at "eval Slice") => `(tactic| (k_here; (with_reducible show wpAny _ _ (eval (PySem.Expr.Slice _ _ _ ⟨149, 66, _, _⟩) _) _ _ _); (rename FreezeOn => fz9); clear fz9; refine thaw ?_))
local macro_rules | `(tactic| walk_at "call ref") => `(tactic| (k_here; refine thaw ?_))
theorem uform {m m₀ : Str → Option Value} {l : List Str} (h : ∀ z, l.contains z = false → m z = m₀ z) : m = fun z => if l.contains z = true then m z else m₀ z := by
  funext z
  by_cases hz : l.contains z = true
  · rw [if_pos hz]
  · rw [if_neg hz]; exact h z (by simpa using hz)
theorem range_nat (b : Int) : Builtin.Range.rangeSize 0 b 9 = ((Builtin.Range.rangeSize 0 b 9).toNat : Int) := by
  unfold Builtin.Range.rangeSize
  rw [if_pos (by decide)]
  split <;> omega
theorem two_of {h₀ h : Heap} {L : Addr} {p o : Addr × Obj} {news : List (Addr × Obj)} (N : News h₀ L h (p :: news)) (ho : o ∈ news) : News h₀ L h [p, o] := fun q hq => by
  rcases List.mem_cons.mp hq with rfl | hq
  · exact N _ (List.mem_cons_self ..)
  · rw [List.mem_singleton.mp hq]; exact N _ (List.mem_cons_of_mem _ ho)
theorem cb_second {h₀ h : Heap} {L : Addr} {p q : Addr × Obj} {news : List (Addr × Obj)} (N : News h₀ L h (p :: q :: news)) : News h₀ L h (p :: news) := fun r hr => by
  rcases List.mem_cons.mp hr with rfl | hr
  · exact N _ (List.mem_cons_self ..)
  · exact N _ (List.mem_cons_of_mem _ (List.mem_cons_of_mem _ hr))
theorem turn_fr {g g' h : Heap} {L : Addr} {m : Str → Option Value} (T : KtsTurn [] g g') (F : Fr g' L h m) : Fr g L h m := ⟨F.ns, fun b o e => F.keep b o (T.other b o e (by simp)), by rw [← T.size]; exact F.above⟩
theorem turn_news {g g' h : Heap} {L : Addr} {news : List (Addr × Obj)} (T : KtsTurn [] g g') (N : News g' L h news) : News g L h news := fun p hp => ⟨(N p hp).1, (N p hp).2.1, by
  cases q : g.get? p.1 with
  | none => rfl
  | some o => have := T.other _ _ q (by simp); rw [(N p hp).2.2] at this; cases this⟩
theorem krs_ind {prog : Program} {w : World} {A : Around} {E : Value → Shared → Prop} {s : Shared} {env : Env} {h₀ : Heap} {x : Str} {body : List Stmt} {Q : Flow → Shared → Prop} {I : Addr} {a c : Int} {n : Nat} {m₀ : Str → Option Value} {o : Addr × Obj} (l : List Str)
    (step : ∀ (k i : Nat) (u : Str → Option Value) (news' : List (Addr × Obj)), o ∈ news' → (∀ (m' : Str → Option Value) (news'' : List (Addr × Obj)), (∀ z, l.contains z = false → m' z = m₀ z) → o ∈ news'' → KrsRest prog w A E h₀ env x body Q s I a c n k (i + 1) m' news'') → KrsRest prog w A E h₀ env x body Q s I a c n (k + 1) i (fun z => if l.contains z = true then u z else m₀ z) news')
    (zero : ∀ (i : Nat) (u : Str → Option Value) (news' : List (Addr × Obj)), KrsRest prog w A E h₀ env x body Q s I a c n 0 i (fun z => if l.contains z = true then u z else m₀ z) news') :
    ∀ (k i : Nat) (m' : Str → Option Value) (news' : List (Addr × Obj)), (∀ z, l.contains z = false → m' z = m₀ z) → o ∈ news' → KrsRest prog w A E h₀ env x body Q s I a c n k i m' news'
  | 0, i, m', news', hm, _ => by rw [uform hm]; exact zero i m' news'
  | k + 1, i, m', news', hm, ho => by
    rw [uform hm]
    exact step k i m' news' ho fun m2 news2 hm2 ho2 => krs_ind l step zero k (i + 1) m2 news2 hm2 ho2
theorem small_of {b : Int} (h0 : 0 ≤ b) (h : b ≤ 63) : Builtin.Range.small 0 b 9 = true := by
  have hb : ∃ n : Fin 64, b = ((n.val : Nat) : Int) := ⟨⟨b.toNat, by omega⟩, by simp; omega⟩
  obtain ⟨n, rfl⟩ := hb
  revert n
  decide +kernel
theorem not_in4 {a b c d z : Str} (h : [a, b, c, d].contains z = false) : z ≠ a ∧ z ≠ b ∧ z ≠ c ∧ z ≠ d := by
  simp only [List.contains_cons, List.contains_nil, Bool.or_false, Bool.or_eq_false_iff, beq_eq_false_iff_ne] at h
  exact h
theorem nine_of {ws : List Value} {la : List Int} {P : Prop} (h : IntsAre ws (List.take (Int.toNat 9) (la ++ (List.replicate (Int.toNat 9) [0]).flatten))) (k : ∀ ns, IntsAre ws ns → ns.length = 9 → P) : P :=
  k _ h (by show (List.take 9 (la ++ [0, 0, 0, 0, 0, 0, 0, 0, 0])).length = 9; simp)
theorem slice9 (A C n : Nat) : min (min A (min 63 n) - C) (min 63 n - C) + (List.replicate (Int.toNat 9) [(0 : Int)]).flatten.length ≤ 16777216 :=
  Nat.le_trans (Nat.add_le_add_right (Nat.le_trans (Nat.min_le_right _ _) (Nat.le_trans (Nat.sub_le _ _) (Nat.min_le_left _ _))) _) (by decide)
local macro_rules | `(tactic| kmk_sum) => `(tactic| ((simp only [sizeLine_eq, List.length_append, List.length_drop, List.length_take]); exact slice9 _ _ _))
theorem holds : PySem.Challenge.rw_ko0035_01.Holds := by
  w_on; o_law; k_head; (case hw => w_witness2); w_strict (k_go0; (all_goals try k_fold); k_steps; (
    rename IsRange _ _ _ _ _ _ _ _ => hR;
    rename Fr _ _ _ _ => hF;
    rename News _ _ _ _ => hN;
    rename ((List.take _ _).length = _) => hC;
    refine krs_iter (n := (Builtin.Range.rangeSize 0 _ 9).toNat) (by rfl) hR (small_of (by rw [hC]; split <;> omega) (by rw [hC]; split <;> omega)) (range_nat _) hF hN ?_;
    intro I lI;
    refine krs_ind [Str.ofString "start", Str.ofString "text", Str.ofString "due", Str.ofString "told"] ?step ?zero _ 0 _ _ (fun z _ => rfl) (List.mem_singleton.mpr rfl);
    case zero => (
      intro i u news';
      refine KrsRest.zero (fun h' tk' F' N' => ?_);
      k_steps);
    case step => (
      intro k i u news' ho next;
      refine KrsRest.succ rfl (fun t' h' tk' F' N' => ?_);
      have N2 := two_of N' ho;
      clear N';
      clear hR hF hN;
      have fz := FreezeOn.mk;
      k_steps;
      refine melt ?_;
      dsimp only;
      rename IntsAre _ (_ ++ _) => hA;
      rename ((List.take _ (List.drop _ _)).length ≤ _) => hLen;
      walk1; walk1; walk1; walk1; walk1;
      k_dflt (refine kba_turn (value' := PySem.Expr.Name (PySem.Str.ofString "_") ⟨0, 0, 0, 0⟩) (fun _ => rfl) ?_);
      k_dflt (refine' kmk_slice_ints ?zF ?zN ?zl ?zp ?zq hA (kmk_upto (y := 9) hA (by decide)) rfl ?_ ?zs ?zt ?zz; (case zF => k_asm); (case zN => k_asm); (case zl => exact News.isList (by k_asm) (by k_mem)); (case zp => exact IsPart.none); (case zq => exact IsPart.int _ _); (case zs => with_unfolding_all rfl); (case zt => kmk_pure); (case zz => (rw [List.size_toArray, hA.length, List.length_append, sizeLine_eq, List.length_flatten]; simp only [List.map_replicate, List.length_cons, List.length_nil]; refine Nat.le_trans (Nat.add_le_add_right (Nat.le_trans hLen (Nat.le_trans (List.length_take_le _ _) (Nat.le_refl 63))) _) (by decide))));
      intro D' ws' h' F' N' l1 hI' hC' hL';
      (try k_lt l1);
      k_steps;
      refine melt ?_;
      refine nine_of hI' ?_;
      clear hI' hC' hL';
      intro ns hn hl9;
      obtain ⟨hT60, hiso⟩ := plain ns;
      have hCd := @c_date;
      dsimp only [ClD] at hCd;
      k_dflt (refine' hCd _ _ _ _ _ _ _ ns _ hn hl9 _ _ _ _ _ _ _ _ _ _ _ _ _ _ _ _ _ ?d1 ?d2 ?d3 ?d4 ?d5 ?d6 ?d7 ?d8 ?dR; clear hCd; (case d1 => exact below_caller _); (case d2 => k_asm); (case d3 => k_asm); (case d4 => (refine' cb_push ?n1 ?n2; (case n1 => k_asm); (case n2 => k_mem))); (case d5 => k_asm); (case d6 => rfl); (case d7 => ktr_room); (case d8 => ktr_units));
      intro D9 h9 tk9 t1 t2 F9 N9;
      replace N9 := cb_second N9;
      (try dsimp only);
      (try k_fold);
      k_steps;
      refine melt ?_;
      generalize t138 ns = T at *;
      generalize dueV ns = dv at *;
      have hCi := @c_iso;
      dsimp only [ClS] at hCi;
      k_dflt (refine' hCi _ _ _ _ _ _ dv _ _ _ _ _ _ _ _ _ _ _ _ _ _ _ _ _ ?e1 ?e2 ?e3 ?e4 ?e5 ?e6 ?e7 ?e8 ?e9 ?ea ?eb ?ec ?eR; clear hCi; (case e1 => exact below_caller _); (case e2 => k_asm); (case e3 => k_asm); (case e4 => k_asm); (case e5 => k_asm); (case e6 => k_asm); (case e7 => k_asm); (case e8 => exact ktsDicts_nil); (case e9 => rfl); (case ea => exact ⟨hT60, hiso⟩); (case eb => ktr_room); (case ec => ktr_units));
      intro t9 h9 tk9 g9 T9 F9 N9 B9 X9 P9 D9;
      replace F9 := turn_fr (show KtsTurn [] _ _ from T9) F9;
      replace N9 := turn_news (show KtsTurn [] _ _ from T9) N9;
      clear T9 B9 X9 P9 D9;
      (try dsimp only);
      (try k_fold);
      cases dv with
      | none => (
        dsimp only [resV] at *;
        k_steps;
        (refine next _ _ (fun z hz => ?_) (by k_mem));
        obtain ⟨n1, n2, n3, n4⟩ := not_in4 hz;
        simp only [if_neg n1, if_neg n2, if_neg n3, if_neg n4, hz, if_false, Bool.false_eq_true])
      | some z => (
        dsimp only [resV] at *;
        k_steps;
        (refine next _ _ (fun z hz => ?_) (by k_mem));
        obtain ⟨n1, n2, n3, n4⟩ := not_in4 hz;
        simp only [if_neg n1, if_neg n2, if_neg n3, if_neg n4, hz, if_false, Bool.false_eq_true]))))
end Mine
end
end
theorem PySem.Challenge.cw_ko0035_01_holds : PySem.Challenge.rw_ko0035_01.Holds := by
  exact Mine.holds
