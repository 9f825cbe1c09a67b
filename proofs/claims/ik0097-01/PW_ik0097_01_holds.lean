import PyProof.Rows.All
import Wide.All
import OpenK.AllK
import Wide.FinOn
import Lean
import PySem.Challenge.RW_ik0097_01
set_option Elab.async false
set_option compiler.extract_closed false
namespace Mine
def tS (k : Lean.Name) (a : Array Lean.Syntax) : Lean.Syntax := .node .none `Lean.Parser.Tactic.tacticSeq #[.node .none `Lean.Parser.Tactic.tacticSeq1Indented #[.node .none `null #[.node .none k a]]]
def tR : Lean.Syntax := tS `Lean.Parser.Tactic.tacticRfl #[Lean.mkAtom "rfl"]
def tT : Lean.Syntax := tS `Lean.Parser.Tactic.tacticTrivial #[Lean.mkAtom "trivial"]
def tD : Lean.Syntax := tS `Lean.Parser.Tactic.decide #[Lean.mkAtom "decide", .node .none `Lean.Parser.Tactic.optConfig #[.node .none `null #[]]]
def tK : Lean.Syntax := tS `tacticKernel_rfl #[Lean.mkAtom "kernel_rfl"]
set_option linter.unusedVariables false
section
open PySem PySem.W PyProof.Rows
set_option maxRecDepth 100000

noncomputable def anyL (p : Nat → Bool) : List Nat → Bool
  | [] => false
  | x :: l => match p x with
    | true => true
    | false => anyL p l
theorem anyL_eq (p : Nat → Bool) : ∀ l : List Nat, l.any p = anyL p l
  | [] => rfl
  | x :: l => by
    rw [List.any_cons, anyL_eq p l]
    show _ = (match p x with | true => true | false => anyL p l)
    cases p x <;> rfl
theorem any_eq (a : Array Nat) (p : Nat → Bool) : Array.any a p 0 a.size = anyL p a.toList := by
  rw [← anyL_eq, Array.any_toList]

noncomputable def sizeL : List Nat → Nat → Nat
  | [], n => n
  | _ :: l, n => match Nat.beq (n + 1) 0 with
    | true => 0
    | false => sizeL l (n + 1)
theorem sizeL_eq : ∀ (l : List Nat) (n : Nat), sizeL l n = l.length + n
  | [], n => by simp [sizeL]
  | x :: l, n => by
    show (match Nat.beq (n + 1) 0 with | true => 0 | false => sizeL l (n + 1)) = _
    rw [show Nat.beq (n + 1) 0 = false from rfl]
    dsimp only
    rw [sizeL_eq l (n + 1), List.length_cons]
    omega
noncomputable def sizeA (a : Array Nat) : Nat := sizeL a.toList 0
theorem sizeA_eq : @Array.size Nat = sizeA := by
  funext a
  rw [sizeA, sizeL_eq]
  rfl
noncomputable def anyA (a : Array Nat) (p : Nat → Bool) (start stop : Nat) : Bool := match Nat.beq start 0 with
  | true => match Nat.beq stop (sizeA a) with
    | true => anyL p a.toList
    | false => Array.any a p start stop
  | false => Array.any a p start stop
theorem anyA_eq : @Array.any Nat = anyA := by
  funext a p start stop
  unfold anyA
  cases h : Nat.beq start 0 with
  | false => rfl
  | true =>
    cases h' : Nat.beq stop (sizeA a) with
    | false => rfl
    | true =>
      dsimp only
      have e := Nat.eq_of_beq_eq_true h
      have e' := Nat.eq_of_beq_eq_true h'
      subst e
      rw [e', ← sizeA_eq, any_eq]

noncomputable def TT (f : Builtin) (id : String) : Option Builtin :=
  match Nat.beq (PySem.W.Fast.tw13482112738370960269 id) 29827186395103491166823348853 with
  | true => some f
  | false => PySem.W.Fast.tw1115789885857029328.find (PySem.W.Fast.tw13482112738370960269 id)
theorem TT_eq {f : Builtin} (hf : PySem.W.Fast.tw4202317264376624991 = f) : TT f = treeTable := by
  rw [PySem.W.Fast.te14364793385576792824]
  funext id
  show (match Nat.beq (PySem.W.Fast.tw13482112738370960269 id) 29827186395103491166823348853 with
  | true => some f
  | false => PySem.W.Fast.tw1115789885857029328.find (PySem.W.Fast.tw13482112738370960269 id)) = PySem.W.Fast.tw1115789885857029328.find (PySem.W.Fast.tw13482112738370960269 id)
  cases h : Nat.beq (PySem.W.Fast.tw13482112738370960269 id) 29827186395103491166823348853 with
  | false => rfl
  | true =>
    have e := Nat.eq_of_beq_eq_true h
    rw [e, ← hf]
    kernel_rfl
end
section
open PySem PySem.W PyProof.Rows
set_option maxRecDepth 100000

abbrev pw : Program := PySem.Challenge.pw_ik0097_01

noncomputable def impRun (tb : String → Option Builtin) (p : Program) (w : World) : Nat → SharedT → Thread → Option SharedT
  | 0, _, _ => none
  | n + 1, s, t => match t.atExitBegin with
    | some l => match l with
      | [] => some s
      | _ :: _ => none
    | none => match stepT (denote tb) p w s t with
      | some (s', t') => impRun tb p w n s' t'
      | none => none
theorem impRun_of {tb : String → Option Builtin} {p : Program} {w : World} : ∀ {n : Nat} {s s' : SharedT} {t : Thread}, impRun tb p w n s t = some s' → importEnds tb p w n s.abs t = some s'.abs := by
  intro n
  induction n with
  | zero => intro _ _ _ h; cases h
  | succ n ih =>
    intro s s' t h
    unfold impRun at h
    unfold importEnds
    cases he : t.atExitBegin with
    | some l =>
      rw [he] at h
      cases l with
      | nil => cases h; rfl
      | cons => cases h
    | none =>
      rw [he] at h
      cases hs : stepT (denote tb) p w s t with
      | none => rw [hs] at h; cases h
      | some r => obtain ⟨s₂, t₂⟩ := r; rw [hs] at h; dsimp only; rw [stepT_spec hs]; exact ih h
noncomputable def topRunT (tb : String → Option Builtin) (p : Program) (w : World) (n₀ : Nat) (ann : Option Value) : Nat → SharedT → Thread → Option SharedT
  | 0, _, _ => none
  | n + 1, s, t => match through t with
    | true => some s
    | false => match stepOk n₀ ann t with
      | false => none
      | true => match stepT (denote tb) p w s t with
        | some (s', t') => topRunT tb p w n₀ ann n s' t'
        | none => none
theorem topRun_of {tb : String → Option Builtin} {p : Program} {w : World} {n₀ : Nat} {ann : Option Value} : ∀ {n : Nat} {s s' : SharedT} {t : Thread}, topRunT tb p w n₀ ann n s t = some s' → topRun tb p w n₀ ann n s.abs t = some s'.abs := by
  intro n
  induction n with
  | zero => intro _ _ _ h; cases h
  | succ n ih =>
    intro s s' t h
    unfold topRunT at h
    unfold topRun
    cases he : through t with
    | true => rw [he] at h; cases h; rfl
    | false =>
      rw [he] at h
      cases hk : stepOk n₀ ann t with
      | false => rw [hk] at h; cases h
      | true =>
        rw [hk] at h
        cases hs : stepT (denote tb) p w s t with
        | none => rw [hs] at h; cases h
        | some r => obtain ⟨s₂, t₂⟩ := r; rw [hs] at h; rw [stepT_spec hs]; exact ih h

noncomputable def impRunQ (f : Builtin) (p : Program) (w : World) : Nat → SharedT → Thread → Option SharedT
  | 0, _, _ => none
  | n + 1, s, t => match PySem.W.Fast.tw3805553451399329143 t with
    | some l => match l with
      | [] => some s
      | _ :: _ => none
    | none => match PySem.W.Fast.tw10156331382660048174 (PySem.W.Fast.tw11892475500146522536 (TT f)) p w s t with
      | some (s', t') => impRunQ f p w n s' t'
      | none => none
theorem impRunQ_eq {f : Builtin} (hf : PySem.W.Fast.tw4202317264376624991 = f) {p : Program} {w : World} : ∀ (n : Nat) (s : SharedT) (t : Thread), impRunQ f p w n s t = impRun treeTable p w n s t := by
  intro n
  induction n with
  | zero => intro _ _; rfl
  | succ n ih =>
    intro s t
    unfold impRunQ impRun
    rw [← PySem.W.Fast.te3805553451399329143, ← PySem.W.Fast.te10156331382660048174, ← PySem.W.Fast.te11892475500146522536, TT_eq hf]
    split
    · rfl
    · split
      · exact ih _ _
      · rfl
noncomputable def topRunQ (f : Builtin) (p : Program) (w : World) (n₀ : Nat) (ann : Option Value) : Nat → SharedT → Thread → Option SharedT
  | 0, _, _ => none
  | n + 1, s, t => match through t with
    | true => some s
    | false => match PySem.W.Fast.tw6613529449190102663 n₀ ann t with
      | false => none
      | true => match PySem.W.Fast.tw10156331382660048174 (PySem.W.Fast.tw11892475500146522536 (TT f)) p w s t with
        | some (s', t') => topRunQ f p w n₀ ann n s' t'
        | none => none
theorem topRunQ_eq {f : Builtin} (hf : PySem.W.Fast.tw4202317264376624991 = f) {p : Program} {w : World} {n₀ : Nat} {ann : Option Value} : ∀ (n : Nat) (s : SharedT) (t : Thread), topRunQ f p w n₀ ann n s t = topRunT treeTable p w n₀ ann n s t := by
  intro n
  induction n with
  | zero => intro _ _; rfl
  | succ n ih =>
    intro s t
    unfold topRunQ topRunT
    rw [← PySem.W.Fast.te6613529449190102663, ← PySem.W.Fast.te10156331382660048174, ← PySem.W.Fast.te11892475500146522536, TT_eq hf]
    split
    · rfl
    · split
      · rfl
      · split
        · exact ih _ _
        · rfl

noncomputable def lay : List Obj → Nat → BT → Option BT
  | [], _, t => some t
  | o :: l, n, t => match ((t.ins n o).get n).isSome with
    | true => lay l (n + 1) (t.ins n o)
    | false => none
theorem lay_of (life : Life) : ∀ {l : List Obj} {n : Nat} {t t' : BT}, lay l n t = some t' → absHeap t' (n + l.length) life = ⟨(absHeap t n life).objs ++ l.toArray, life⟩ := by
  intro l
  induction l with
  | nil =>
    intro n t t' h
    cases h
    show absHeap t n life = ⟨(absHeap t n life).objs ++ #[], life⟩
    rw [Array.append_empty]
    rfl
  | cons o l ih =>
    intro n t t' h
    unfold lay at h
    cases g : ((t.ins n o).get n).isSome with
    | false => rw [g] at h; cases h
    | true =>
      rw [g] at h
      have e := ih h
      rw [absHeap_ins g] at e
      rw [List.length_cons, show n + (l.length + 1) = n + 1 + l.length by omega, e]
      show Heap.mk (((absHeap t n life).objs.push o) ++ l.toArray) life = _
      congr 1
      simp
noncomputable def toT (s : Shared) : Option SharedT := match lay s.heap.objs.toList 0 .nil with
  | some t => some ⟨t, s.heap.objs.toList.length, s.heap.life, s.gens, s.drawn, s.toks, s.os⟩
  | none => none
theorem toT_abs {s : Shared} {t : SharedT} (h : toT s = some t) : t.abs = s := by
  unfold toT at h
  cases g : lay s.heap.objs.toList 0 .nil with
  | none => rw [g] at h; cases h
  | some b =>
    rw [g] at h
    cases h
    have e := lay_of s.heap.life g
    rw [Nat.zero_add] at e
    obtain ⟨⟨objs, life⟩, gens, drawn, toks, os⟩ := s
    show Shared.mk (absHeap b _ life) gens drawn toks os = _
    rw [e]
    congr 2
    show (absHeap .nil 0 life).objs ++ _ = _
    show (#[] : Array Obj) ++ _ = _
    simp

noncomputable def N : Nat := 4200
noncomputable def S00 (p : Program) : SharedT := ⟨.nil, 0, {}, #[], {}, 1, (start (opening p)).1.os⟩
theorem S00_abs (p : Program) : (S00 p).abs = (start (opening p)).1 := rfl

noncomputable def pipe (f : Builtin) (p : Program) (w : World) : Option (Shared × SharedT) :=
  match impRunQ f (opening p) w N (S00 p) (PySem.W.Fast.tw1435165496053646825 (opening p)).2 with
  | some s1 => match PySem.W.Fast.tw14289696077712309145 p s1.abs with
    | some s0 => match toT s0 with
      | some t0 => match s0.heap.isNs mainGlobals && s0.gens.size == 0 with
        | true => match topRunQ f p w s0.heap.objs.size (PySem.W.Fast.tw8920871248978507458 s0.heap mainGlobals "__annotations__") N t0 (topStub p) with
          | some s => some (s0, s)
          | none => none
        | false => none
      | none => none
    | none => none
  | none => none
theorem pipe_of {f : Builtin} (hf : PySem.W.Fast.tw4202317264376624991 = f) {p : Program} {w : World} {s0 : Shared} {s : SharedT} (h : pipe f p w = some (s0, s)) :
    fencedOpening treeTable p w N = some s0 ∧ (s0.heap.isNs mainGlobals && s0.gens.size == 0) = true ∧ topRun treeTable p w s0.heap.objs.size (s0.heap.nsMap mainGlobals "__annotations__") N s0 (topStub p) = some s.abs := by
  unfold pipe at h
  rw [← PySem.W.Fast.te1435165496053646825, ← PySem.W.Fast.te14289696077712309145, ← PySem.W.Fast.te8920871248978507458] at h
  split at h
  · rename_i s1 e1
    split at h
    · rename_i s0' e2
      split at h
      · rename_i t0 e3
        split at h
        · rename_i e4
          split at h
          · rename_i s' e5
            cases h
            rw [impRunQ_eq hf] at e1
            rw [topRunQ_eq hf] at e5
            refine ⟨?_, e4, ?_⟩
            · unfold fencedOpening
              have := impRun_of e1
              rw [S00_abs] at this
              rw [this]
              exact e2
            · have := topRun_of e5
              rw [toT_abs e3] at this
              exact this
          · cases h
        · cases h
      · cases h
    · cases h
  · cases h
end
section
open PySem PySem.W PyProof.Rows
set_option maxRecDepth 100000
noncomputable def docLit : String := "\nSequenceMatcher is a flexible class for comparing pairs of sequences of\nany type, so long as the sequence elements are hashable.  The basic\nalgorithm predates, and is a little fancier than, an algorithm\npublished in the late 1980's by Ratcliff and Obershelp under the\nhyperbolic name \"gestalt pattern matching\".  The basic idea is to find\nthe longest contiguous matching subsequence that contains no \"junk\"\nelements (R-O doesn't address junk).  The same idea is then applied\nrecursively to the pieces of the sequences to the left and to the right\nof the matching subsequence.  This does not yield minimal edit\nsequences, but does tend to yield matches that \"look right\" to people.\n\nSequenceMatcher tries to compute a \"human-friendly diff\" between two\nsequences.  Unlike e.g. UNIX(tm) diff, the fundamental notion is the\nlongest *contiguous* & junk-free matching subsequence.  That's what\ncatches peoples' eyes.  The Windows(tm) windiff has another interesting\nnotion, pairing up elements that appear uniquely in each sequence.\nThat, and the method here, appear to yield more intuitive difference\nreports than does diff.  This method appears to be the least vulnerable\nto syncing up on blocks of \"junk lines\", though (like blank lines in\nordinary text files, or maybe \"<P>\" lines in HTML files).  That may be\nbecause this is the only method of the 3 that has a *concept* of\n\"junk\" <wink>.\n\nExample, comparing two strings, and considering blanks to be \"junk\":\n\n>>> s = SequenceMatcher(lambda x: x == \" \",\n...                     \"private Thread currentThread;\",\n...                     \"private volatile Thread currentThread;\")\n>>>\n\n.ratio() returns a float in [0, 1], measuring the \"similarity\" of the\nsequences.  As a rule of thumb, a .ratio() value over 0.6 means the\nsequences are close matches:\n\n>>> print(round(s.ratio(), 2))\n0.87\n>>>\n\nIf you're only interested in where the sequences match,\n.get_matching_blocks() is handy:\n\n>>> for block in s.get_matching_blocks():\n...     print(\"a[%d] and b[%d] match for %d elements\" % block)\na[0] and b[0] match for 8 elements\na[8] and b[17] match for 21 elements\na[29] and b[38] match for 0 elements\n\nNote that the last tuple returned by .get_matching_blocks() is always a\ndummy, (len(a), len(b), 0), and this is the only case in which the last\ntuple element (number of elements matched) is 0.\n\nIf you want to know how to change the first sequence into the second,\nuse .get_opcodes():\n\n>>> for opcode in s.get_opcodes():\n...     print(\"%6s a[%d:%d] b[%d:%d]\" % opcode)\n equal a[0:8] b[0:8]\ninsert a[8:8] b[8:17]\n equal a[8:29] b[17:38]\n\nSee the Differ class for a fancy human-friendly file differencer, which\nuses SequenceMatcher both to compare sequences of lines, and to compare\nsequences of characters within similar (near-matching) lines.\n\nSee also function get_close_matches() in this module, which shows how\nsimple code building on SequenceMatcher can be used to do useful work.\n\nTiming:  Basic R-O is cubic time worst case and quadratic time expected\ncase.  SequenceMatcher is quadratic time for the worst case and has\nexpected-case behavior dependent in a complicated way on how many\nelements the sequences have in common; best case time is linear.\n"
noncomputable def docNs : List Nat := [10, 83, 101, 113, 117, 101, 110, 99, 101, 77, 97, 116, 99, 104, 101, 114, 32, 105, 115, 32, 97, 32, 102, 108, 101, 120, 105, 98, 108, 101, 32, 99, 108, 97, 115, 115, 32, 102, 111, 114, 32, 99, 111, 109, 112, 97, 114, 105, 110, 103, 32, 112, 97, 105, 114, 115, 32, 111, 102, 32, 115, 101, 113, 117, 101, 110, 99, 101, 115, 32, 111, 102, 10, 97, 110, 121, 32, 116, 121, 112, 101, 44, 32, 115, 111, 32, 108, 111, 110, 103, 32, 97, 115, 32, 116, 104, 101, 32, 115, 101, 113, 117, 101, 110, 99, 101, 32, 101, 108, 101, 109, 101, 110, 116, 115, 32, 97, 114, 101, 32, 104, 97, 115, 104, 97, 98, 108, 101, 46, 32, 32, 84, 104, 101, 32, 98, 97, 115, 105, 99, 10, 97, 108, 103, 111, 114, 105, 116, 104, 109, 32, 112, 114, 101, 100, 97, 116, 101, 115, 44, 32, 97, 110, 100, 32, 105, 115, 32, 97, 32, 108, 105, 116, 116, 108, 101, 32, 102, 97, 110, 99, 105, 101, 114, 32, 116, 104, 97, 110, 44, 32, 97, 110, 32, 97, 108, 103, 111, 114, 105, 116, 104, 109, 10, 112, 117, 98, 108, 105, 115, 104, 101, 100, 32, 105, 110, 32, 116, 104, 101, 32, 108, 97, 116, 101, 32, 49, 57, 56, 48, 39, 115, 32, 98, 121, 32, 82, 97, 116, 99, 108, 105, 102, 102, 32, 97, 110, 100, 32, 79, 98, 101, 114, 115, 104, 101, 108, 112, 32, 117, 110, 100, 101, 114, 32, 116, 104, 101, 10, 104, 121, 112, 101, 114, 98, 111, 108, 105, 99, 32, 110, 97, 109, 101, 32, 34, 103, 101, 115, 116, 97, 108, 116, 32, 112, 97, 116, 116, 101, 114, 110, 32, 109, 97, 116, 99, 104, 105, 110, 103, 34, 46, 32, 32, 84, 104, 101, 32, 98, 97, 115, 105, 99, 32, 105, 100, 101, 97, 32, 105, 115, 32, 116, 111, 32, 102, 105, 110, 100, 10, 116, 104, 101, 32, 108, 111, 110, 103, 101, 115, 116, 32, 99, 111, 110, 116, 105, 103, 117, 111, 117, 115, 32, 109, 97, 116, 99, 104, 105, 110, 103, 32, 115, 117, 98, 115, 101, 113, 117, 101, 110, 99, 101, 32, 116, 104, 97, 116, 32, 99, 111, 110, 116, 97, 105, 110, 115, 32, 110, 111, 32, 34, 106, 117, 110, 107, 34, 10, 101, 108, 101, 109, 101, 110, 116, 115, 32, 40, 82, 45, 79, 32, 100, 111, 101, 115, 110, 39, 116, 32, 97, 100, 100, 114, 101, 115, 115, 32, 106, 117, 110, 107, 41, 46, 32, 32, 84, 104, 101, 32, 115, 97, 109, 101, 32, 105, 100, 101, 97, 32, 105, 115, 32, 116, 104, 101, 110, 32, 97, 112, 112, 108, 105, 101, 100, 10, 114, 101, 99, 117, 114, 115, 105, 118, 101, 108, 121, 32, 116, 111, 32, 116, 104, 101, 32, 112, 105, 101, 99, 101, 115, 32, 111, 102, 32, 116, 104, 101, 32, 115, 101, 113, 117, 101, 110, 99, 101, 115, 32, 116, 111, 32, 116, 104, 101, 32, 108, 101, 102, 116, 32, 97, 110, 100, 32, 116, 111, 32, 116, 104, 101, 32, 114, 105, 103, 104, 116, 10, 111, 102, 32, 116, 104, 101, 32, 109, 97, 116, 99, 104, 105, 110, 103, 32, 115, 117, 98, 115, 101, 113, 117, 101, 110, 99, 101, 46, 32, 32, 84, 104, 105, 115, 32, 100, 111, 101, 115, 32, 110, 111, 116, 32, 121, 105, 101, 108, 100, 32, 109, 105, 110, 105, 109, 97, 108, 32, 101, 100, 105, 116, 10, 115, 101, 113, 117, 101, 110, 99, 101, 115, 44, 32, 98, 117, 116, 32, 100, 111, 101, 115, 32, 116, 101, 110, 100, 32, 116, 111, 32, 121, 105, 101, 108, 100, 32, 109, 97, 116, 99, 104, 101, 115, 32, 116, 104, 97, 116, 32, 34, 108, 111, 111, 107, 32, 114, 105, 103, 104, 116, 34, 32, 116, 111, 32, 112, 101, 111, 112, 108, 101, 46, 10, 10, 83, 101, 113, 117, 101, 110, 99, 101, 77, 97, 116, 99, 104, 101, 114, 32, 116, 114, 105, 101, 115, 32, 116, 111, 32, 99, 111, 109, 112, 117, 116, 101, 32, 97, 32, 34, 104, 117, 109, 97, 110, 45, 102, 114, 105, 101, 110, 100, 108, 121, 32, 100, 105, 102, 102, 34, 32, 98, 101, 116, 119, 101, 101, 110, 32, 116, 119, 111, 10, 115, 101, 113, 117, 101, 110, 99, 101, 115, 46, 32, 32, 85, 110, 108, 105, 107, 101, 32, 101, 46, 103, 46, 32, 85, 78, 73, 88, 40, 116, 109, 41, 32, 100, 105, 102, 102, 44, 32, 116, 104, 101, 32, 102, 117, 110, 100, 97, 109, 101, 110, 116, 97, 108, 32, 110, 111, 116, 105, 111, 110, 32, 105, 115, 32, 116, 104, 101, 10, 108, 111, 110, 103, 101, 115, 116, 32, 42, 99, 111, 110, 116, 105, 103, 117, 111, 117, 115, 42, 32, 38, 32, 106, 117, 110, 107, 45, 102, 114, 101, 101, 32, 109, 97, 116, 99, 104, 105, 110, 103, 32, 115, 117, 98, 115, 101, 113, 117, 101, 110, 99, 101, 46, 32, 32, 84, 104, 97, 116, 39, 115, 32, 119, 104, 97, 116, 10, 99, 97, 116, 99, 104, 101, 115, 32, 112, 101, 111, 112, 108, 101, 115, 39, 32, 101, 121, 101, 115, 46, 32, 32, 84, 104, 101, 32, 87, 105, 110, 100, 111, 119, 115, 40, 116, 109, 41, 32, 119, 105, 110, 100, 105, 102, 102, 32, 104, 97, 115, 32, 97, 110, 111, 116, 104, 101, 114, 32, 105, 110, 116, 101, 114, 101, 115, 116, 105, 110, 103, 10, 110, 111, 116, 105, 111, 110, 44, 32, 112, 97, 105, 114, 105, 110, 103, 32, 117, 112, 32, 101, 108, 101, 109, 101, 110, 116, 115, 32, 116, 104, 97, 116, 32, 97, 112, 112, 101, 97, 114, 32, 117, 110, 105, 113, 117, 101, 108, 121, 32, 105, 110, 32, 101, 97, 99, 104, 32, 115, 101, 113, 117, 101, 110, 99, 101, 46, 10, 84, 104, 97, 116, 44, 32, 97, 110, 100, 32, 116, 104, 101, 32, 109, 101, 116, 104, 111, 100, 32, 104, 101, 114, 101, 44, 32, 97, 112, 112, 101, 97, 114, 32, 116, 111, 32, 121, 105, 101, 108, 100, 32, 109, 111, 114, 101, 32, 105, 110, 116, 117, 105, 116, 105, 118, 101, 32, 100, 105, 102, 102, 101, 114, 101, 110, 99, 101, 10, 114, 101, 112, 111, 114, 116, 115, 32, 116, 104, 97, 110, 32, 100, 111, 101, 115, 32, 100, 105, 102, 102, 46, 32, 32, 84, 104, 105, 115, 32, 109, 101, 116, 104, 111, 100, 32, 97, 112, 112, 101, 97, 114, 115, 32, 116, 111, 32, 98, 101, 32, 116, 104, 101, 32, 108, 101, 97, 115, 116, 32, 118, 117, 108, 110, 101, 114, 97, 98, 108, 101, 10, 116, 111, 32, 115, 121, 110, 99, 105, 110, 103, 32, 117, 112, 32, 111, 110, 32, 98, 108, 111, 99, 107, 115, 32, 111, 102, 32, 34, 106, 117, 110, 107, 32, 108, 105, 110, 101, 115, 34, 44, 32, 116, 104, 111, 117, 103, 104, 32, 40, 108, 105, 107, 101, 32, 98, 108, 97, 110, 107, 32, 108, 105, 110, 101, 115, 32, 105, 110, 10, 111, 114, 100, 105, 110, 97, 114, 121, 32, 116, 101, 120, 116, 32, 102, 105, 108, 101, 115, 44, 32, 111, 114, 32, 109, 97, 121, 98, 101, 32, 34, 60, 80, 62, 34, 32, 108, 105, 110, 101, 115, 32, 105, 110, 32, 72, 84, 77, 76, 32, 102, 105, 108, 101, 115, 41, 46, 32, 32, 84, 104, 97, 116, 32, 109, 97, 121, 32, 98, 101, 10, 98, 101, 99, 97, 117, 115, 101, 32, 116, 104, 105, 115, 32, 105, 115, 32, 116, 104, 101, 32, 111, 110, 108, 121, 32, 109, 101, 116, 104, 111, 100, 32, 111, 102, 32, 116, 104, 101, 32, 51, 32, 116, 104, 97, 116, 32, 104, 97, 115, 32, 97, 32, 42, 99, 111, 110, 99, 101, 112, 116, 42, 32, 111, 102, 10, 34, 106, 117, 110, 107, 34, 32, 60, 119, 105, 110, 107, 62, 46, 10, 10, 69, 120, 97, 109, 112, 108, 101, 44, 32, 99, 111, 109, 112, 97, 114, 105, 110, 103, 32, 116, 119, 111, 32, 115, 116, 114, 105, 110, 103, 115, 44, 32, 97, 110, 100, 32, 99, 111, 110, 115, 105, 100, 101, 114, 105, 110, 103, 32, 98, 108, 97, 110, 107, 115, 32, 116, 111, 32, 98, 101, 32, 34, 106, 117, 110, 107, 34, 58, 10, 10, 62, 62, 62, 32, 115, 32, 61, 32, 83, 101, 113, 117, 101, 110, 99, 101, 77, 97, 116, 99, 104, 101, 114, 40, 108, 97, 109, 98, 100, 97, 32, 120, 58, 32, 120, 32, 61, 61, 32, 34, 32, 34, 44, 10, 46, 46, 46, 32, 32, 32, 32, 32, 32, 32, 32, 32, 32, 32, 32, 32, 32, 32, 32, 32, 32, 32, 32, 32, 34, 112, 114, 105, 118, 97, 116, 101, 32, 84, 104, 114, 101, 97, 100, 32, 99, 117, 114, 114, 101, 110, 116, 84, 104, 114, 101, 97, 100, 59, 34, 44, 10, 46, 46, 46, 32, 32, 32, 32, 32, 32, 32, 32, 32, 32, 32, 32, 32, 32, 32, 32, 32, 32, 32, 32, 32, 34, 112, 114, 105, 118, 97, 116, 101, 32, 118, 111, 108, 97, 116, 105, 108, 101, 32, 84, 104, 114, 101, 97, 100, 32, 99, 117, 114, 114, 101, 110, 116, 84, 104, 114, 101, 97, 100, 59, 34, 41, 10, 62, 62, 62, 10, 10, 46, 114, 97, 116, 105, 111, 40, 41, 32, 114, 101, 116, 117, 114, 110, 115, 32, 97, 32, 102, 108, 111, 97, 116, 32, 105, 110, 32, 91, 48, 44, 32, 49, 93, 44, 32, 109, 101, 97, 115, 117, 114, 105, 110, 103, 32, 116, 104, 101, 32, 34, 115, 105, 109, 105, 108, 97, 114, 105, 116, 121, 34, 32, 111, 102, 32, 116, 104, 101, 10, 115, 101, 113, 117, 101, 110, 99, 101, 115, 46, 32, 32, 65, 115, 32, 97, 32, 114, 117, 108, 101, 32, 111, 102, 32, 116, 104, 117, 109, 98, 44, 32, 97, 32, 46, 114, 97, 116, 105, 111, 40, 41, 32, 118, 97, 108, 117, 101, 32, 111, 118, 101, 114, 32, 48, 46, 54, 32, 109, 101, 97, 110, 115, 32, 116, 104, 101, 10, 115, 101, 113, 117, 101, 110, 99, 101, 115, 32, 97, 114, 101, 32, 99, 108, 111, 115, 101, 32, 109, 97, 116, 99, 104, 101, 115, 58, 10, 10, 62, 62, 62, 32, 112, 114, 105, 110, 116, 40, 114, 111, 117, 110, 100, 40, 115, 46, 114, 97, 116, 105, 111, 40, 41, 44, 32, 50, 41, 41, 10, 48, 46, 56, 55, 10, 62, 62, 62, 10, 10, 73, 102, 32, 121, 111, 117, 39, 114, 101, 32, 111, 110, 108, 121, 32, 105, 110, 116, 101, 114, 101, 115, 116, 101, 100, 32, 105, 110, 32, 119, 104, 101, 114, 101, 32, 116, 104, 101, 32, 115, 101, 113, 117, 101, 110, 99, 101, 115, 32, 109, 97, 116, 99, 104, 44, 10, 46, 103, 101, 116, 95, 109, 97, 116, 99, 104, 105, 110, 103, 95, 98, 108, 111, 99, 107, 115, 40, 41, 32, 105, 115, 32, 104, 97, 110, 100, 121, 58, 10, 10, 62, 62, 62, 32, 102, 111, 114, 32, 98, 108, 111, 99, 107, 32, 105, 110, 32, 115, 46, 103, 101, 116, 95, 109, 97, 116, 99, 104, 105, 110, 103, 95, 98, 108, 111, 99, 107, 115, 40, 41, 58, 10, 46, 46, 46, 32, 32, 32, 32, 32, 112, 114, 105, 110, 116, 40, 34, 97, 91, 37, 100, 93, 32, 97, 110, 100, 32, 98, 91, 37, 100, 93, 32, 109, 97, 116, 99, 104, 32, 102, 111, 114, 32, 37, 100, 32, 101, 108, 101, 109, 101, 110, 116, 115, 34, 32, 37, 32, 98, 108, 111, 99, 107, 41, 10, 97, 91, 48, 93, 32, 97, 110, 100, 32, 98, 91, 48, 93, 32, 109, 97, 116, 99, 104, 32, 102, 111, 114, 32, 56, 32, 101, 108, 101, 109, 101, 110, 116, 115, 10, 97, 91, 56, 93, 32, 97, 110, 100, 32, 98, 91, 49, 55, 93, 32, 109, 97, 116, 99, 104, 32, 102, 111, 114, 32, 50, 49, 32, 101, 108, 101, 109, 101, 110, 116, 115, 10, 97, 91, 50, 57, 93, 32, 97, 110, 100, 32, 98, 91, 51, 56, 93, 32, 109, 97, 116, 99, 104, 32, 102, 111, 114, 32, 48, 32, 101, 108, 101, 109, 101, 110, 116, 115, 10, 10, 78, 111, 116, 101, 32, 116, 104, 97, 116, 32, 116, 104, 101, 32, 108, 97, 115, 116, 32, 116, 117, 112, 108, 101, 32, 114, 101, 116, 117, 114, 110, 101, 100, 32, 98, 121, 32, 46, 103, 101, 116, 95, 109, 97, 116, 99, 104, 105, 110, 103, 95, 98, 108, 111, 99, 107, 115, 40, 41, 32, 105, 115, 32, 97, 108, 119, 97, 121, 115, 32, 97, 10, 100, 117, 109, 109, 121, 44, 32, 40, 108, 101, 110, 40, 97, 41, 44, 32, 108, 101, 110, 40, 98, 41, 44, 32, 48, 41, 44, 32, 97, 110, 100, 32, 116, 104, 105, 115, 32, 105, 115, 32, 116, 104, 101, 32, 111, 110, 108, 121, 32, 99, 97, 115, 101, 32, 105, 110, 32, 119, 104, 105, 99, 104, 32, 116, 104, 101, 32, 108, 97, 115, 116, 10, 116, 117, 112, 108, 101, 32, 101, 108, 101, 109, 101, 110, 116, 32, 40, 110, 117, 109, 98, 101, 114, 32, 111, 102, 32, 101, 108, 101, 109, 101, 110, 116, 115, 32, 109, 97, 116, 99, 104, 101, 100, 41, 32, 105, 115, 32, 48, 46, 10, 10, 73, 102, 32, 121, 111, 117, 32, 119, 97, 110, 116, 32, 116, 111, 32, 107, 110, 111, 119, 32, 104, 111, 119, 32, 116, 111, 32, 99, 104, 97, 110, 103, 101, 32, 116, 104, 101, 32, 102, 105, 114, 115, 116, 32, 115, 101, 113, 117, 101, 110, 99, 101, 32, 105, 110, 116, 111, 32, 116, 104, 101, 32, 115, 101, 99, 111, 110, 100, 44, 10, 117, 115, 101, 32, 46, 103, 101, 116, 95, 111, 112, 99, 111, 100, 101, 115, 40, 41, 58, 10, 10, 62, 62, 62, 32, 102, 111, 114, 32, 111, 112, 99, 111, 100, 101, 32, 105, 110, 32, 115, 46, 103, 101, 116, 95, 111, 112, 99, 111, 100, 101, 115, 40, 41, 58, 10, 46, 46, 46, 32, 32, 32, 32, 32, 112, 114, 105, 110, 116, 40, 34, 37, 54, 115, 32, 97, 91, 37, 100, 58, 37, 100, 93, 32, 98, 91, 37, 100, 58, 37, 100, 93, 34, 32, 37, 32, 111, 112, 99, 111, 100, 101, 41, 10, 32, 101, 113, 117, 97, 108, 32, 97, 91, 48, 58, 56, 93, 32, 98, 91, 48, 58, 56, 93, 10, 105, 110, 115, 101, 114, 116, 32, 97, 91, 56, 58, 56, 93, 32, 98, 91, 56, 58, 49, 55, 93, 10, 32, 101, 113, 117, 97, 108, 32, 97, 91, 56, 58, 50, 57, 93, 32, 98, 91, 49, 55, 58, 51, 56, 93, 10, 10, 83, 101, 101, 32, 116, 104, 101, 32, 68, 105, 102, 102, 101, 114, 32, 99, 108, 97, 115, 115, 32, 102, 111, 114, 32, 97, 32, 102, 97, 110, 99, 121, 32, 104, 117, 109, 97, 110, 45, 102, 114, 105, 101, 110, 100, 108, 121, 32, 102, 105, 108, 101, 32, 100, 105, 102, 102, 101, 114, 101, 110, 99, 101, 114, 44, 32, 119, 104, 105, 99, 104, 10, 117, 115, 101, 115, 32, 83, 101, 113, 117, 101, 110, 99, 101, 77, 97, 116, 99, 104, 101, 114, 32, 98, 111, 116, 104, 32, 116, 111, 32, 99, 111, 109, 112, 97, 114, 101, 32, 115, 101, 113, 117, 101, 110, 99, 101, 115, 32, 111, 102, 32, 108, 105, 110, 101, 115, 44, 32, 97, 110, 100, 32, 116, 111, 32, 99, 111, 109, 112, 97, 114, 101, 10, 115, 101, 113, 117, 101, 110, 99, 101, 115, 32, 111, 102, 32, 99, 104, 97, 114, 97, 99, 116, 101, 114, 115, 32, 119, 105, 116, 104, 105, 110, 32, 115, 105, 109, 105, 108, 97, 114, 32, 40, 110, 101, 97, 114, 45, 109, 97, 116, 99, 104, 105, 110, 103, 41, 32, 108, 105, 110, 101, 115, 46, 10, 10, 83, 101, 101, 32, 97, 108, 115, 111, 32, 102, 117, 110, 99, 116, 105, 111, 110, 32, 103, 101, 116, 95, 99, 108, 111, 115, 101, 95, 109, 97, 116, 99, 104, 101, 115, 40, 41, 32, 105, 110, 32, 116, 104, 105, 115, 32, 109, 111, 100, 117, 108, 101, 44, 32, 119, 104, 105, 99, 104, 32, 115, 104, 111, 119, 115, 32, 104, 111, 119, 10, 115, 105, 109, 112, 108, 101, 32, 99, 111, 100, 101, 32, 98, 117, 105, 108, 100, 105, 110, 103, 32, 111, 110, 32, 83, 101, 113, 117, 101, 110, 99, 101, 77, 97, 116, 99, 104, 101, 114, 32, 99, 97, 110, 32, 98, 101, 32, 117, 115, 101, 100, 32, 116, 111, 32, 100, 111, 32, 117, 115, 101, 102, 117, 108, 32, 119, 111, 114, 107, 46, 10, 10, 84, 105, 109, 105, 110, 103, 58, 32, 32, 66, 97, 115, 105, 99, 32, 82, 45, 79, 32, 105, 115, 32, 99, 117, 98, 105, 99, 32, 116, 105, 109, 101, 32, 119, 111, 114, 115, 116, 32, 99, 97, 115, 101, 32, 97, 110, 100, 32, 113, 117, 97, 100, 114, 97, 116, 105, 99, 32, 116, 105, 109, 101, 32, 101, 120, 112, 101, 99, 116, 101, 100, 10, 99, 97, 115, 101, 46, 32, 32, 83, 101, 113, 117, 101, 110, 99, 101, 77, 97, 116, 99, 104, 101, 114, 32, 105, 115, 32, 113, 117, 97, 100, 114, 97, 116, 105, 99, 32, 116, 105, 109, 101, 32, 102, 111, 114, 32, 116, 104, 101, 32, 119, 111, 114, 115, 116, 32, 99, 97, 115, 101, 32, 97, 110, 100, 32, 104, 97, 115, 10, 101, 120, 112, 101, 99, 116, 101, 100, 45, 99, 97, 115, 101, 32, 98, 101, 104, 97, 118, 105, 111, 114, 32, 100, 101, 112, 101, 110, 100, 101, 110, 116, 32, 105, 110, 32, 97, 32, 99, 111, 109, 112, 108, 105, 99, 97, 116, 101, 100, 32, 119, 97, 121, 32, 111, 110, 32, 104, 111, 119, 32, 109, 97, 110, 121, 10, 101, 108, 101, 109, 101, 110, 116, 115, 32, 116, 104, 101, 32, 115, 101, 113, 117, 101, 110, 99, 101, 115, 32, 104, 97, 118, 101, 32, 105, 110, 32, 99, 111, 109, 109, 111, 110, 59, 32, 98, 101, 115, 116, 32, 99, 97, 115, 101, 32, 116, 105, 109, 101, 32, 105, 115, 32, 108, 105, 110, 101, 97, 114, 46, 10]
noncomputable def docCs : List Char := docNs.map Char.ofNat
theorem doc_eq : Str.ofString docLit = Str.mk (Array.mk docNs) := by
  have h : docLit = String.ofList docCs := by kernel_rfl
  rw [h, PySem.W.Fast.ofString_ofList]
  kernel_rfl
noncomputable def setDocE (d : Str) : Expr → Expr
  | .Constant _ k p => .Constant (.str d) k p
  | e => e
noncomputable def setDocT (d : Str) : Stmt → Stmt
  | .Expr e q => .Expr (setDocE d e) q
  | s => s
noncomputable def setDocS (d : Str) : Stmt → Stmt
  | .ClassDef n bs ks b ds tps sc st ts b' ps => .ClassDef n bs ks (b.modify 0 (setDocT d)) ds tps sc st ts b' ps
  | s => s
noncomputable def setDoc (d : Str) (p : Program) : Program := { p with main := { p.main with body := p.main.body.modify 19 (setDocS d) } }
theorem setDoc_eq : setDoc (Str.ofString docLit) pw = pw := by kernel_rfl
noncomputable def pwQ : Program := setDoc (Str.mk (Array.mk docNs)) pw
theorem pwQ_eq : pwQ = pw := by
  unfold pwQ
  rw [← doc_eq, setDoc_eq]
end
section
open PySem PySem.W PyProof.Rows
set_option maxRecDepth 100000
noncomputable def vw : Program := view pw [0, 1, 2, 4, 5, 7, 9, 10, 11, 16, 17, 18, 19, 21, 22, 23, 24, 25, 26, 27, 28]
noncomputable def ls : List Str := ["_twin_re_1", "_special_chars_map", "b2a_base64", "b64encode", "_tuplegetter", "Match", "SequenceMatcher"]
noncomputable def Xt (s : Shared) : Bool := xlAt vw [] s && recOk (RowW.records (PySem.Challenge.rw_ik0097_01.row.toRowW)) s
noncomputable def look1 (p : Program) (x : Shared × SharedT) : Bool := staticsOk (importedModules pw.main.body) x.1.heap x.2.abs.heap && namesBound p x.2.abs.heap && gensDone x.2.abs && laidKept x.1.heap x.2.abs.heap
noncomputable def fix (a b : Bool) (w : World) : World := (w.withFollow "comprehension-iter-twice" a).withFollow "special-get-raises" b
end
section
open PySem PySem.W PyProof.Rows
set_option maxRecDepth 100000
noncomputable def sAt (i : Nat) : Stmt := (pw.main.body[i]?).getD (.Pass default)
noncomputable def cAt (i j : Nat) : Stmt := match sAt i with
  | .ClassDef _ _ _ b .. => (b[j]?).getD (.Pass default)
  | _ => .Pass default
noncomputable def docC : Const → Str
  | .str s => s
  | _ => Str.empty
noncomputable def docE : Expr → Str
  | .Constant c _ _ => docC c
  | _ => Str.empty
noncomputable def docT : Stmt → Str
  | .Expr e _ => docE e
  | _ => Str.empty
noncomputable def docB (b : List Stmt) : Str := docT ((b[0]?).getD (.Pass default))
noncomputable def docS : Stmt → Str
  | .FunctionDef _ _ b .. => docB b
  | .ClassDef _ _ _ b .. => docB b
  | _ => Str.empty
noncomputable def fnD (s : Stmt) (q : Str) (dV kV doc pm : Value) (an : Option Addr) (cd ct : Value) : FuncData := match s with
  | .FunctionDef n ps b _ _ _ sc .. => fnOf n q ps b sc dV kV doc pm an cd ct
  | _ => default
noncomputable def k2 (P : Params) : Obj := ⟨.none, none, (.dict (List.toArray [⟨PyData.keyHash P (Str.ofString "\x69mport.loaded._sre"), (.str (Str.ofString "\x69mport.loaded._sre") 183), (.bool true)⟩, ⟨PyData.keyHash P (Str.ofString "class._frozen_importlib.BuiltinImporter"), (.str (Str.ofString "class._frozen_importlib.BuiltinImporter") 185), (.ref 14)⟩, ⟨PyData.keyHash P (Str.ofString "watched.\x69mport"), (.str (Str.ofString "watched.\x69mport") 206), (.ref 18)⟩, ⟨PyData.keyHash P (Str.ofString "class._frozen_importlib.ModuleSpec"), (.str (Str.ofString "class._frozen_importlib.ModuleSpec") 216), (.ref 22)⟩, ⟨PyData.keyHash P (Str.ofString "sys.modules.booked-epoch"), (.str (Str.ofString "sys.modules.booked-epoch") 245), (.int (3) 0)⟩, ⟨PyData.keyHash P (Str.ofString "\x69mport.later-laid._sre"), (.str (Str.ofString "\x69mport.later-laid._sre") 270), (.bool true)⟩, ⟨PyData.keyHash P (Str.ofString "watched.library"), (.str (Str.ofString "watched.library") 272), (.ref 27)⟩, ⟨PyData.keyHash P (Str.ofString "watched.library-objects"), (.str (Str.ofString "watched.library-objects") 0), (.str (Str.ofString "\x0c") 0)⟩, ⟨PyData.keyHash P (Str.ofString "watched.library-deep._sre"), (.str (Str.ofString "watched.library-deep._sre") 273), (.str (Str.ofString "\x04\x00\x00\x0b\x04\x00\x00\x0b\x04\x00\x00\x03\x04\x00\x00\x0b\x08\x04dict\x02") 0)⟩]) 9), List.toArray []⟩
noncomputable def k3 (P : Params) : Obj := ⟨(.type "dict"), none, (.dict (List.toArray [⟨PyData.keyHash P (Str.ofString "__name__"), (.str (Str.ofString "__name__") 165), (.str (Str.ofString "law_ik0097_01") 930)⟩, ⟨PyData.keyHash P (Str.ofString "__doc__"), (.str (Str.ofString "__doc__") 166), .none⟩, ⟨PyData.keyHash P (Str.ofString "__package__"), (.str (Str.ofString "__package__") 167), .none⟩, ⟨PyData.keyHash P (Str.ofString "__loader__"), (.str (Str.ofString "__loader__") 168), (.builtin "__main__.__loader__#opaque")⟩, ⟨PyData.keyHash P (Str.ofString "__spec__"), (.str (Str.ofString "__spec__") 169), .none⟩, ⟨PyData.keyHash P (Str.ofString "__annotations__"), (.str (Str.ofString "__annotations__") 170), (.ref 6)⟩, ⟨PyData.keyHash P (Str.ofString "__builtins__"), (.str (Str.ofString "__builtins__") 171), (.ref 4)⟩, ⟨PyData.keyHash P (Str.ofString "__file__"), (.str (Str.ofString "__file__") 173), (.str (Str.ofString "/claim/cut.py") 172)⟩, ⟨PyData.keyHash P (Str.ofString "__cached__"), (.str (Str.ofString "__cached__") 174), .none⟩, ⟨PyData.keyHash P (Str.ofString "_sre"), (.str (Str.ofString "_sre") 275), (.ref 12)⟩, ⟨PyData.keyHash P (Str.ofString "_wall"), (.str (Str.ofString "_wall") 288), (.ref 38)⟩, ⟨PyData.keyHash P (Str.ofString "_twin_re_1"), (.str (Str.ofString "_twin_re_1") 326), (.ref 43)⟩, ⟨PyData.keyHash P (Str.ofString "_special_chars_map"), (.str (Str.ofString "_special_chars_map") 474), (.ref 45)⟩, ⟨PyData.keyHash P (Str.ofString "escape"), (.str (Str.ofString "escape") 481), (.ref 55)⟩, ⟨PyData.keyHash P (Str.ofString "_translate"), (.str (Str.ofString "_translate") 502), (.ref 62)⟩, ⟨PyData.keyHash P (Str.ofString "_buffer"), (.str (Str.ofString "_buffer") 512), (.ref 69)⟩, ⟨PyData.keyHash P (Str.ofString "_truth"), (.str (Str.ofString "_truth") 520), (.ref 76)⟩, ⟨PyData.keyHash P (Str.ofString "_B64"), (.str (Str.ofString "_B64") 522), (.bytes #[65, 66, 67, 68, 69, 70, 71, 72, 73, 74, 75, 76, 77, 78, 79, 80, 81, 82, 83, 84, 85, 86, 87, 88, 89, 90, 97, 98, 99, 100, 101, 102, 103, 104, 105, 106, 107, 108, 109, 110, 111, 112, 113, 114, 115, 116, 117, 118, 119, 120, 121, 122, 48, 49, 50, 51, 52, 53, 54, 55, 56, 57, 43, 47] 521)⟩, ⟨PyData.keyHash P (Str.ofString "b2a_base64"), (.str (Str.ofString "b2a_base64") 536), (.ref 84)⟩, ⟨PyData.keyHash P (Str.ofString "b64encode"), (.str (Str.ofString "b64encode") 548), (.ref 92)⟩, ⟨PyData.keyHash P (Str.ofString "_tuplegetter"), (.str (Str.ofString "_tuplegetter") 607), (.ref 131)⟩, ⟨PyData.keyHash P (Str.ofString "Match"), (.str (Str.ofString "Match") 735), (.ref 206)⟩, ⟨PyData.keyHash P (Str.ofString "_calculate_ratio"), (.str (Str.ofString "_calculate_ratio") 743), (.ref 216)⟩, ⟨PyData.keyHash P (Str.ofString "SequenceMatcher"), (.str (Str.ofString "SequenceMatcher") 929), (.ref 313)⟩, ⟨PyData.keyHash P (Str.ofString "_law_changed"), (.str (Str.ofString "_law_changed") 941), (.ref 324)⟩, ⟨PyData.keyHash P (Str.ofString "_law_coded"), (.str (Str.ofString "_law_coded") 947), (.ref 329)⟩, ⟨PyData.keyHash P (Str.ofString "_law_longest"), (.str (Str.ofString "_law_longest") 959), (.ref 336)⟩, ⟨PyData.keyHash P (Str.ofString "_law_blocks"), (.str (Str.ofString "_law_blocks") 973), (.ref 343)⟩, ⟨PyData.keyHash P (Str.ofString "_law_joined"), (.str (Str.ofString "_law_joined") 989), (.ref 350)⟩, ⟨PyData.keyHash P (Str.ofString "_law_fits"), (.str (Str.ofString "_law_fits") 995), (.ref 355)⟩, ⟨PyData.keyHash P (Str.ofString "_law_said"), (.str (Str.ofString "_law_said") 1007), (.ref 362)⟩, ⟨PyData.keyHash P (Str.ofString "law"), (.str (Str.ofString "law") 1013), (.ref 367)⟩]) 32), List.toArray []⟩
noncomputable def k32 (P : Params) : Obj := ⟨(.type "tuple"), none, (.seq (List.toArray []) 0), List.toArray []⟩
noncomputable def k34 (P : Params) : Obj := ⟨(.type "tuple"), none, (.seq (List.toArray [(.str (Str.ofString "k") 285)]) 0), List.toArray []⟩
noncomputable def k35 (P : Params) : Obj := ⟨(.type "tuple"), none, (.seq (List.toArray []) 0), List.toArray []⟩
noncomputable def k37 (P : Params) : Obj := ⟨(.type "code"), none, (.fields (List.toArray [(.str (Str.ofString "_wall") 282), (.str (Str.ofString "_wall") 283), (.str (Str.ofString "/claim/cut.py") 284), (.int (2) 0), (.int (1) 0), (.int (0) 0), (.int (0) 0), (.int (3) 0), (.ref 32), (.bool true), (.int (276) 0), (.ref 33), .none, (.ref 34), (.ref 35), (.ref 36), (.int (286) 0), (.int (2) 0), (.str (Str.ofString "/claim/cut.py") 287)])), List.toArray []⟩
noncomputable def k38 (P : Params) : Obj := ⟨(.type "function"), none, (.func (fnD (sAt 1) (Str.ofString "_wall") .none .none .none (.str (Str.ofString "__main__") 164) none (.ref 37) .none)), List.toArray []⟩
noncomputable def k42 (P : Params) : Obj := ⟨(.type "tuple"), none, (.seq (List.toArray [(.int (14) 0), (.int (14) 0), (.int (4) 0), (.int (1) 0), (.int (1) 0), (.int (9) 0), (.int (0) 0), (.int (64) 0), (.int (0) 0), (.int (1342177280) 0), (.int (0) 0), (.int (0) 0), (.int (0) 0), (.int (0) 0), (.int (0) 0), (.int (17) 0), (.int (0) 0), (.int (13) 0), (.int (11) 0), (.int (9) 0), (.int (0) 0), (.int (64) 0), (.int (0) 0), (.int (1342177280) 0), (.int (0) 0), (.int (0) 0), (.int (0) 0), (.int (0) 0), (.int (0) 0), (.int (17) 0), (.int (1) 0), (.int (1) 0)]) 0), List.toArray []⟩
noncomputable def k43 (P : Params) : Obj := ⟨(.type "re.Pattern"), none, (.fields (List.toArray [(.str (Str.ofString "([&~|])") 290), (.int (32) 325), (.int (1) 0), .none, .none, (.ref 42), (.int (0) 0)])), List.toArray []⟩
noncomputable def k45 (P : Params) : Obj := ⟨(.type "dict"), none, (.dict (List.toArray [⟨(40), (.int (40) 330), (.str (Str.ofString "\\(") 334)⟩, ⟨(41), (.int (41) 336), (.str (Str.ofString "\\)") 340)⟩, ⟨(91), (.int (91) 342), (.str (Str.ofString "\\[") 346)⟩, ⟨(93), (.int (93) 348), (.str (Str.ofString "\\]") 352)⟩, ⟨(123), (.int (123) 354), (.str (Str.ofString "\\{") 358)⟩, ⟨(125), (.int (125) 360), (.str (Str.ofString "\\}") 364)⟩, ⟨(63), (.int (63) 366), (.str (Str.ofString "\\?") 370)⟩, ⟨(42), (.int (42) 372), (.str (Str.ofString "\\*") 376)⟩, ⟨(43), (.int (43) 378), (.str (Str.ofString "\\+") 382)⟩, ⟨(45), (.int (45) 384), (.str (Str.ofString "\\-") 388)⟩, ⟨(124), (.int (124) 390), (.str (Str.ofString "\\|") 394)⟩, ⟨(94), (.int (94) 396), (.str (Str.ofString "\\^") 400)⟩, ⟨(36), (.int (36) 402), (.str (Str.ofString "\\$") 406)⟩, ⟨(92), (.int (92) 408), (.str (Str.ofString "\\\\") 412)⟩, ⟨(46), (.int (46) 414), (.str (Str.ofString "\\.") 418)⟩, ⟨(38), (.int (38) 420), (.str (Str.ofString "\\&") 424)⟩, ⟨(126), (.int (126) 426), (.str (Str.ofString "\\~") 430)⟩, ⟨(35), (.int (35) 432), (.str (Str.ofString "\\#") 436)⟩, ⟨(32), (.int (32) 438), (.str (Str.ofString "\\ ") 442)⟩, ⟨(9), (.int (9) 444), (.str (Str.ofString "\\\t") 448)⟩, ⟨(10), (.int (10) 450), (.str (Str.ofString "\\\n") 454)⟩, ⟨(13), (.int (13) 456), (.str (Str.ofString "\\\x0d") 460)⟩, ⟨(11), (.int (11) 462), (.str (Str.ofString "\\\x0b") 466)⟩, ⟨(12), (.int (12) 468), (.str (Str.ofString "\\\x0c") 472)⟩]) 24), List.toArray []⟩
noncomputable def k49 (P : Params) : Obj := ⟨(.type "tuple"), none, (.seq (List.toArray []) 0), List.toArray []⟩
noncomputable def k51 (P : Params) : Obj := ⟨(.type "tuple"), none, (.seq (List.toArray [(.str (Str.ofString "pattern") 478)]) 0), List.toArray []⟩
noncomputable def k52 (P : Params) : Obj := ⟨(.type "tuple"), none, (.seq (List.toArray []) 0), List.toArray []⟩
noncomputable def k54 (P : Params) : Obj := ⟨(.type "code"), none, (.fields (List.toArray [(.str (Str.ofString "escape") 475), (.str (Str.ofString "escape") 476), (.str (Str.ofString "/claim/cut.py") 477), (.int (8) 0), (.int (1) 0), (.int (0) 0), (.int (0) 0), (.int (3) 0), (.ref 49), (.bool true), (.int (276) 0), (.ref 50), .none, (.ref 51), (.ref 52), (.ref 53), (.int (479) 0), (.int (8) 0), (.str (Str.ofString "/claim/cut.py") 480)])), List.toArray []⟩
noncomputable def k55 (P : Params) : Obj := ⟨(.type "function"), none, (.func (fnD (sAt 5) (Str.ofString "escape") .none .none .none (.str (Str.ofString "re") 327) none (.ref 54) .none)), List.toArray []⟩
noncomputable def k56 (P : Params) : Obj := ⟨(.type "tuple"), none, (.seq (List.toArray []) 0), List.toArray []⟩
noncomputable def k58 (P : Params) : Obj := ⟨(.type "tuple"), none, (.seq (List.toArray [(.str (Str.ofString "pat") 487), (.str (Str.ofString "STAR") 488), (.str (Str.ofString "QUESTION_MARK") 489), (.str (Str.ofString "res") 490), (.str (Str.ofString "add") 491), (.str (Str.ofString "i") 492), (.str (Str.ofString "n") 493), (.str (Str.ofString "c") 494), (.str (Str.ofString "j") 495), (.str (Str.ofString "stuff") 496), (.str (Str.ofString "chunks") 497), (.str (Str.ofString "k") 498), (.str (Str.ofString "chunk") 499)]) 0), List.toArray []⟩
noncomputable def k59 (P : Params) : Obj := ⟨(.type "tuple"), none, (.seq (List.toArray []) 0), List.toArray []⟩
noncomputable def k61 (P : Params) : Obj := ⟨(.type "code"), none, (.fields (List.toArray [(.str (Str.ofString "_translate") 484), (.str (Str.ofString "_translate") 485), (.str (Str.ofString "/claim/cut.py") 486), (.int (15) 0), (.int (3) 0), (.int (0) 0), (.int (0) 0), (.int (3) 0), (.ref 56), (.bool true), (.int (276) 0), (.ref 57), .none, (.ref 58), (.ref 59), (.ref 60), (.int (500) 0), (.int (15) 0), (.str (Str.ofString "/claim/cut.py") 501)])), List.toArray []⟩
noncomputable def k62 (P : Params) : Obj := ⟨(.type "function"), none, (.func (fnD (sAt 7) (Str.ofString "_translate") .none .none .none (.str (Str.ofString "cpy313.fnmatch") 482) none (.ref 61) .none)), List.toArray []⟩
noncomputable def k63 (P : Params) : Obj := ⟨(.type "tuple"), none, (.seq (List.toArray []) 0), List.toArray []⟩
noncomputable def k65 (P : Params) : Obj := ⟨(.type "tuple"), none, (.seq (List.toArray [(.str (Str.ofString "data") 508), (.str (Str.ofString "t") 509)]) 0), List.toArray []⟩
noncomputable def k66 (P : Params) : Obj := ⟨(.type "tuple"), none, (.seq (List.toArray []) 0), List.toArray []⟩
noncomputable def k68 (P : Params) : Obj := ⟨(.type "code"), none, (.fields (List.toArray [(.str (Str.ofString "_buffer") 505), (.str (Str.ofString "_buffer") 506), (.str (Str.ofString "/claim/cut.py") 507), (.int (78) 0), (.int (1) 0), (.int (0) 0), (.int (0) 0), (.int (3) 0), (.ref 63), (.bool true), (.int (276) 0), (.ref 64), .none, (.ref 65), (.ref 66), (.ref 67), (.int (510) 0), (.int (78) 0), (.str (Str.ofString "/claim/cut.py") 511)])), List.toArray []⟩
noncomputable def k69 (P : Params) : Obj := ⟨(.type "function"), none, (.func (fnD (sAt 9) (Str.ofString "_buffer") .none .none .none (.str (Str.ofString "binascii") 503) none (.ref 68) .none)), List.toArray []⟩
noncomputable def k70 (P : Params) : Obj := ⟨(.type "tuple"), none, (.seq (List.toArray []) 0), List.toArray []⟩
noncomputable def k72 (P : Params) : Obj := ⟨(.type "tuple"), none, (.seq (List.toArray [(.str (Str.ofString "x") 516), (.str (Str.ofString "t") 517)]) 0), List.toArray []⟩
noncomputable def k73 (P : Params) : Obj := ⟨(.type "tuple"), none, (.seq (List.toArray []) 0), List.toArray []⟩
noncomputable def k75 (P : Params) : Obj := ⟨(.type "code"), none, (.fields (List.toArray [(.str (Str.ofString "_truth") 513), (.str (Str.ofString "_truth") 514), (.str (Str.ofString "/claim/cut.py") 515), (.int (85) 0), (.int (1) 0), (.int (0) 0), (.int (0) 0), (.int (3) 0), (.ref 70), (.bool true), (.int (276) 0), (.ref 71), .none, (.ref 72), (.ref 73), (.ref 74), (.int (518) 0), (.int (85) 0), (.str (Str.ofString "/claim/cut.py") 519)])), List.toArray []⟩
noncomputable def k76 (P : Params) : Obj := ⟨(.type "function"), none, (.func (fnD (sAt 10) (Str.ofString "_truth") .none .none .none (.str (Str.ofString "binascii") 503) none (.ref 75) .none)), List.toArray []⟩
noncomputable def k77 (P : Params) : Obj := ⟨(.type "dict"), none, (.dict (List.toArray [⟨PyData.keyHash P (Str.ofString "newline"), (.str (Str.ofString "newline") 523), (.bool true)⟩]) 1), List.toArray []⟩
noncomputable def k78 (P : Params) : Obj := ⟨(.type "tuple"), none, (.seq (List.toArray []) 0), List.toArray []⟩
noncomputable def k80 (P : Params) : Obj := ⟨(.type "tuple"), none, (.seq (List.toArray [(.str (Str.ofString "data") 527), (.str (Str.ofString "newline") 528), (.str (Str.ofString "bin_data") 529), (.str (Str.ofString "out") 530), (.str (Str.ofString "leftbits") 531), (.str (Str.ofString "leftchar") 532), (.str (Str.ofString "b") 533)]) 0), List.toArray []⟩
noncomputable def k81 (P : Params) : Obj := ⟨(.type "tuple"), none, (.seq (List.toArray []) 0), List.toArray []⟩
noncomputable def k83 (P : Params) : Obj := ⟨(.type "code"), none, (.fields (List.toArray [(.str (Str.ofString "b2a_base64") 524), (.str (Str.ofString "b2a_base64") 525), (.str (Str.ofString "/claim/cut.py") 526), (.int (91) 0), (.int (1) 0), (.int (1) 0), (.int (1) 0), (.int (3) 0), (.ref 78), (.bool true), (.int (276) 0), (.ref 79), .none, (.ref 80), (.ref 81), (.ref 82), (.int (534) 0), (.int (91) 0), (.str (Str.ofString "/claim/cut.py") 535)])), List.toArray []⟩
noncomputable def k84 (P : Params) : Obj := ⟨(.type "function"), none, (.func (fnD (sAt 12) (Str.ofString "b2a_base64") .none (.ref 77) .none (.str (Str.ofString "binascii") 503) none (.ref 83) .none)), List.toArray []⟩
noncomputable def k85 (P : Params) : Obj := ⟨(.type "tuple"), none, (.seq (List.toArray [.none]) 0), List.toArray []⟩
noncomputable def k86 (P : Params) : Obj := ⟨(.type "tuple"), none, (.seq (List.toArray []) 0), List.toArray []⟩
noncomputable def k88 (P : Params) : Obj := ⟨(.type "tuple"), none, (.seq (List.toArray [(.str (Str.ofString "s") 542), (.str (Str.ofString "altchars") 543), (.str (Str.ofString "encoded") 544)]) 0), List.toArray []⟩
noncomputable def k89 (P : Params) : Obj := ⟨(.type "tuple"), none, (.seq (List.toArray []) 0), List.toArray []⟩
noncomputable def k91 (P : Params) : Obj := ⟨(.type "code"), none, (.fields (List.toArray [(.str (Str.ofString "b64encode") 539), (.str (Str.ofString "b64encode") 540), (.str (Str.ofString "/claim/cut.py") 541), (.int (114) 0), (.int (2) 0), (.int (0) 0), (.int (0) 0), (.int (3) 0), (.ref 86), (.bool true), (.int (276) 0), (.ref 87), .none, (.ref 88), (.ref 89), (.ref 90), (.int (545) 0), (.int (114) 0), (.str (Str.ofString "/claim/cut.py") 546)])), List.toArray []⟩
noncomputable def k92 (P : Params) : Obj := ⟨(.type "function"), none, (.func (fnD (sAt 14) (Str.ofString "b64encode") (.ref 85) .none (.str (docS (sAt 14)) 547) (.str (Str.ofString "cpy313.base64") 537) none (.ref 91) .none)), List.toArray []⟩
noncomputable def k100 (P : Params) : Obj := ⟨(.type "tuple"), none, (.seq (List.toArray []) 0), List.toArray []⟩
noncomputable def k102 (P : Params) : Obj := ⟨(.type "tuple"), none, (.seq (List.toArray [(.str (Str.ofString "self") 566), (.str (Str.ofString "index") 567), (.str (Str.ofString "doc") 568)]) 0), List.toArray []⟩
noncomputable def k103 (P : Params) : Obj := ⟨(.type "tuple"), none, (.seq (List.toArray []) 0), List.toArray []⟩
noncomputable def k105 (P : Params) : Obj := ⟨(.type "code"), none, (.fields (List.toArray [(.str (Str.ofString "__init__") 563), (.str (Str.ofString "_tuplegetter.__init__") 564), (.str (Str.ofString "/claim/cut.py") 565), (.int (129) 0), (.int (3) 0), (.int (0) 0), (.int (0) 0), (.int (3) 0), (.ref 100), (.bool true), (.int (276) 0), (.ref 101), .none, (.ref 102), (.ref 103), (.ref 104), (.int (569) 0), (.int (129) 0), (.str (Str.ofString "/claim/cut.py") 570)])), List.toArray []⟩
noncomputable def k106 (P : Params) : Obj := ⟨(.type "function"), none, (.func (fnD (cAt 16 0) (Str.ofString "_tuplegetter.__init__") .none .none .none (.str (Str.ofString "cpy313.difflib") 549) none (.ref 105) .none)), List.toArray []⟩
noncomputable def k107 (P : Params) : Obj := ⟨(.type "tuple"), none, (.seq (List.toArray [.none]) 0), List.toArray []⟩
noncomputable def k108 (P : Params) : Obj := ⟨(.type "tuple"), none, (.seq (List.toArray []) 0), List.toArray []⟩
noncomputable def k110 (P : Params) : Obj := ⟨(.type "tuple"), none, (.seq (List.toArray [(.str (Str.ofString "self") 575), (.str (Str.ofString "obj") 576), (.str (Str.ofString "objtype") 577)]) 0), List.toArray []⟩
noncomputable def k111 (P : Params) : Obj := ⟨(.type "tuple"), none, (.seq (List.toArray []) 0), List.toArray []⟩
noncomputable def k113 (P : Params) : Obj := ⟨(.type "code"), none, (.fields (List.toArray [(.str (Str.ofString "__get__") 572), (.str (Str.ofString "_tuplegetter.__get__") 573), (.str (Str.ofString "/claim/cut.py") 574), (.int (133) 0), (.int (3) 0), (.int (0) 0), (.int (0) 0), (.int (3) 0), (.ref 108), (.bool true), (.int (276) 0), (.ref 109), .none, (.ref 110), (.ref 111), (.ref 112), (.int (578) 0), (.int (133) 0), (.str (Str.ofString "/claim/cut.py") 579)])), List.toArray []⟩
noncomputable def k114 (P : Params) : Obj := ⟨(.type "function"), none, (.func (fnD (cAt 16 1) (Str.ofString "_tuplegetter.__get__") (.ref 107) .none .none (.str (Str.ofString "cpy313.difflib") 549) none (.ref 113) .none)), List.toArray []⟩
noncomputable def k115 (P : Params) : Obj := ⟨(.type "tuple"), none, (.seq (List.toArray []) 0), List.toArray []⟩
noncomputable def k117 (P : Params) : Obj := ⟨(.type "tuple"), none, (.seq (List.toArray [(.str (Str.ofString "self") 584), (.str (Str.ofString "obj") 585), (.str (Str.ofString "value") 586)]) 0), List.toArray []⟩
noncomputable def k118 (P : Params) : Obj := ⟨(.type "tuple"), none, (.seq (List.toArray []) 0), List.toArray []⟩
noncomputable def k120 (P : Params) : Obj := ⟨(.type "code"), none, (.fields (List.toArray [(.str (Str.ofString "__set__") 581), (.str (Str.ofString "_tuplegetter.__set__") 582), (.str (Str.ofString "/claim/cut.py") 583), (.int (140) 0), (.int (3) 0), (.int (0) 0), (.int (0) 0), (.int (3) 0), (.ref 115), (.bool true), (.int (276) 0), (.ref 116), .none, (.ref 117), (.ref 118), (.ref 119), (.int (587) 0), (.int (140) 0), (.str (Str.ofString "/claim/cut.py") 588)])), List.toArray []⟩
noncomputable def k121 (P : Params) : Obj := ⟨(.type "function"), none, (.func (fnD (cAt 16 2) (Str.ofString "_tuplegetter.__set__") .none .none .none (.str (Str.ofString "cpy313.difflib") 549) none (.ref 120) .none)), List.toArray []⟩
noncomputable def k122 (P : Params) : Obj := ⟨(.type "tuple"), none, (.seq (List.toArray []) 0), List.toArray []⟩
noncomputable def k124 (P : Params) : Obj := ⟨(.type "tuple"), none, (.seq (List.toArray [(.str (Str.ofString "self") 593), (.str (Str.ofString "obj") 594)]) 0), List.toArray []⟩
noncomputable def k125 (P : Params) : Obj := ⟨(.type "tuple"), none, (.seq (List.toArray []) 0), List.toArray []⟩
noncomputable def k127 (P : Params) : Obj := ⟨(.type "code"), none, (.fields (List.toArray [(.str (Str.ofString "__delete__") 590), (.str (Str.ofString "_tuplegetter.__delete__") 591), (.str (Str.ofString "/claim/cut.py") 592), (.int (143) 0), (.int (2) 0), (.int (0) 0), (.int (0) 0), (.int (3) 0), (.ref 122), (.bool true), (.int (276) 0), (.ref 123), .none, (.ref 124), (.ref 125), (.ref 126), (.int (595) 0), (.int (143) 0), (.str (Str.ofString "/claim/cut.py") 596)])), List.toArray []⟩
noncomputable def k128 (P : Params) : Obj := ⟨(.type "function"), none, (.func (fnD (cAt 16 3) (Str.ofString "_tuplegetter.__delete__") .none .none .none (.str (Str.ofString "cpy313.difflib") 549) none (.ref 127) .none)), List.toArray []⟩
noncomputable def k129 (P : Params) : Obj := ⟨(.type "tuple"), none, (.seq (List.toArray [(.str (Str.ofString "__doc__") 598), (.str (Str.ofString "index") 599)]) 0), List.toArray []⟩
noncomputable def k130 (P : Params) : Obj := ⟨(.type "dict"), none, (.dict (List.toArray [⟨PyData.keyHash P (Str.ofString "__module__"), (.str (Str.ofString "__module__") 558), (.str (Str.ofString "cpy313.difflib") 549)⟩, ⟨PyData.keyHash P (Str.ofString "__firstlineno__"), (.str (Str.ofString "__firstlineno__") 562), (.int (127) 561)⟩, ⟨PyData.keyHash P (Str.ofString "__init__"), (.str (Str.ofString "__init__") 571), (.ref 106)⟩, ⟨PyData.keyHash P (Str.ofString "__get__"), (.str (Str.ofString "__get__") 580), (.ref 114)⟩, ⟨PyData.keyHash P (Str.ofString "__set__"), (.str (Str.ofString "__set__") 589), (.ref 121)⟩, ⟨PyData.keyHash P (Str.ofString "__delete__"), (.str (Str.ofString "__delete__") 597), (.ref 128)⟩, ⟨PyData.keyHash P (Str.ofString "__static_attributes__"), (.str (Str.ofString "__static_attributes__") 600), (.ref 129)⟩, ⟨PyData.keyHash P (Str.ofString "__dict__"), (.str (Str.ofString "__dict__") 602), (.ref 132)⟩, ⟨PyData.keyHash P (Str.ofString "__weakref__"), (.str (Str.ofString "__weakref__") 604), (.ref 133)⟩, ⟨PyData.keyHash P (Str.ofString "__doc__"), (.str (Str.ofString "__doc__") 605), .none⟩]) 4), List.toArray []⟩
noncomputable def k131 (P : Params) : Obj := ⟨(.type "type"), none, (.cls { name := (Str.ofString "_tuplegetter"), bases := [(.type "object")], mro := [(.ref 131), (.type "object")], ns := 130, qualname := (Str.ofString "_tuplegetter"), hasDict := true, slotNames := [], subclasses := [], abstract := false, collection := none, hasDel := false }), List.toArray [none, none, (some (.str (Str.ofString "_tuplegetter") 551)), (some (.str (Str.ofString "_tuplegetter") 559)), (some (.builtin "object.__new__")), (some (.bool true))]⟩
noncomputable def k132 (P : Params) : Obj := ⟨(.type "getset_descriptor"), none, (.fields (List.toArray [(.str (Str.ofString "__dict__") 601), (.ref 131), (.builtin "function.__dict__"), (.builtin "function.__dict__#set")])), List.toArray []⟩
noncomputable def k133 (P : Params) : Obj := ⟨(.type "getset_descriptor"), none, (.fields (List.toArray [(.str (Str.ofString "__weakref__") 603), (.ref 131), (.builtin "ExceptionGroup.__weakref__"), .none])), List.toArray []⟩
noncomputable def k136 (P : Params) : Obj := ⟨(.type "tuple"), none, (.seq (List.toArray [(.type "tuple")]) 0), List.toArray []⟩
noncomputable def k139 (P : Params) : Obj := ⟨(.type "cell"), none, (.cell (some (.ref 206))), List.toArray []⟩
noncomputable def k144 (P : Params) : Obj := ⟨(.type "tuple"), none, (.seq (List.toArray []) 0), List.toArray []⟩
noncomputable def k145 (P : Params) : Obj := ⟨(.type "tuple"), none, (.seq (List.toArray [(.str (Str.ofString "a") 624), (.str (Str.ofString "b") 625), (.str (Str.ofString "size") 626)]) 0), List.toArray []⟩
noncomputable def k146 (P : Params) : Obj := ⟨(.type "dict"), none, (.dict (List.toArray []) 0), List.toArray []⟩
noncomputable def k147 (P : Params) : Obj := ⟨(.type "tuple"), none, (.seq (List.toArray []) 0), List.toArray []⟩
noncomputable def k149 (P : Params) : Obj := ⟨(.type "tuple"), none, (.seq (List.toArray [(.str (Str.ofString "_cls") 632), (.str (Str.ofString "a") 633), (.str (Str.ofString "b") 634), (.str (Str.ofString "size") 635)]) 0), List.toArray []⟩
noncomputable def k150 (P : Params) : Obj := ⟨(.type "tuple"), none, (.seq (List.toArray []) 0), List.toArray []⟩
noncomputable def k152 (P : Params) : Obj := ⟨(.type "code"), none, (.fields (List.toArray [(.str (Str.ofString "__new__") 629), (.str (Str.ofString "Match.__new__") 630), (.str (Str.ofString "/claim/cut.py") 631), (.int (151) 0), (.int (4) 0), (.int (0) 0), (.int (0) 0), (.int (3) 0), (.ref 147), (.bool true), (.int (276) 0), (.ref 148), .none, (.ref 149), (.ref 150), (.ref 151), (.int (636) 0), (.int (151) 0), (.str (Str.ofString "/claim/cut.py") 637)])), List.toArray []⟩
noncomputable def k153 (P : Params) : Obj := ⟨(.type "function"), none, (.func (fnD (cAt 17 4) (Str.ofString "Match.__new__") .none .none (.str (Str.ofString "Create new instance of Match(a, b, size)") 638) (.str (Str.ofString "cpy313.difflib") 549) none (.ref 152) .none)), List.toArray []⟩
noncomputable def k154 (P : Params) : Obj := ⟨(.type "tuple"), none, (.seq (List.toArray []) 0), List.toArray []⟩
noncomputable def k156 (P : Params) : Obj := ⟨(.type "tuple"), none, (.seq (List.toArray [(.str (Str.ofString "cls") 643), (.str (Str.ofString "iterable") 644), (.str (Str.ofString "result") 645)]) 0), List.toArray []⟩
noncomputable def k157 (P : Params) : Obj := ⟨(.type "tuple"), none, (.seq (List.toArray []) 0), List.toArray []⟩
noncomputable def k159 (P : Params) : Obj := ⟨(.type "code"), none, (.fields (List.toArray [(.str (Str.ofString "_make") 640), (.str (Str.ofString "Match._make") 641), (.str (Str.ofString "/claim/cut.py") 642), (.int (155) 0), (.int (2) 0), (.int (0) 0), (.int (0) 0), (.int (3) 0), (.ref 154), (.bool true), (.int (276) 0), (.ref 155), .none, (.ref 156), (.ref 157), (.ref 158), (.int (646) 0), (.int (155) 0), (.str (Str.ofString "/claim/cut.py") 647)])), List.toArray []⟩
noncomputable def k160 (P : Params) : Obj := ⟨(.type "function"), none, (.func (fnD (cAt 17 5) (Str.ofString "Match._make") .none .none (.str (docS (cAt 17 5)) 648) (.str (Str.ofString "cpy313.difflib") 549) (some 163) (.ref 159) .none)), List.toArray []⟩
noncomputable def k161 (P : Params) : Obj := ⟨(.type "dict"), none, (.dict (List.toArray [⟨PyData.keyHash P (Str.ofString "__module__"), (.str (Str.ofString "__module__") 650), (.str (Str.ofString "cpy313.difflib") 549)⟩, ⟨PyData.keyHash P (Str.ofString "__name__"), (.str (Str.ofString "__name__") 653), (.str (Str.ofString "_make") 652)⟩, ⟨PyData.keyHash P (Str.ofString "__qualname__"), (.str (Str.ofString "__qualname__") 656), (.str (Str.ofString "Match._make") 655)⟩, ⟨PyData.keyHash P (Str.ofString "__doc__"), (.str (Str.ofString "__doc__") 658), (.str (docS (cAt 17 5)) 648)⟩, ⟨PyData.keyHash P (Str.ofString "__annotations__"), (.str (Str.ofString "__annotations__") 660), (.ref 163)⟩]) 5), List.toArray []⟩
noncomputable def k162 (P : Params) : Obj := ⟨(.type "classmethod"), (some 161), (.fields (List.toArray [(.ref 160), (.bool false)])), List.toArray []⟩
noncomputable def k163 (P : Params) : Obj := ⟨(.type "dict"), none, (.dict (List.toArray []) 0), List.toArray []⟩
noncomputable def k164 (P : Params) : Obj := ⟨(.type "tuple"), none, (.seq (List.toArray [(.ref 139)]) 0), List.toArray []⟩
noncomputable def k165 (P : Params) : Obj := ⟨(.type "tuple"), none, (.seq (List.toArray [(.str (Str.ofString "__class__") 665)]) 0), List.toArray []⟩
noncomputable def k167 (P : Params) : Obj := ⟨(.type "tuple"), none, (.seq (List.toArray [(.str (Str.ofString "self") 666), (.str (Str.ofString "kwds") 667), (.str (Str.ofString "result") 668)]) 0), List.toArray []⟩
noncomputable def k168 (P : Params) : Obj := ⟨(.type "tuple"), none, (.seq (List.toArray []) 0), List.toArray []⟩
noncomputable def k170 (P : Params) : Obj := ⟨(.type "code"), none, (.fields (List.toArray [(.str (Str.ofString "_replace") 662), (.str (Str.ofString "Match._replace") 663), (.str (Str.ofString "/claim/cut.py") 664), (.int (163) 0), (.int (1) 0), (.int (1) 0), (.int (0) 0), (.int (11) 0), (.ref 165), (.bool true), (.int (276) 0), (.ref 166), .none, (.ref 167), (.ref 168), (.ref 169), (.int (669) 0), (.int (163) 0), (.str (Str.ofString "/claim/cut.py") 670)])), List.toArray []⟩
noncomputable def k171 (P : Params) : Obj := ⟨(.type "function"), none, (.func { fnD (cAt 17 6) (Str.ofString "Match._replace") .none .none (.str (docS (cAt 17 6)) 671) (.str (Str.ofString "cpy313.difflib") 549) none (.ref 170) (.ref 164) with closure := [((Str.ofString "__class__"), 139)] }), List.toArray []⟩
noncomputable def k172 (P : Params) : Obj := ⟨(.type "tuple"), none, (.seq (List.toArray []) 0), List.toArray []⟩
noncomputable def k174 (P : Params) : Obj := ⟨(.type "tuple"), none, (.seq (List.toArray [(.str (Str.ofString "self") 677)]) 0), List.toArray []⟩
noncomputable def k175 (P : Params) : Obj := ⟨(.type "tuple"), none, (.seq (List.toArray []) 0), List.toArray []⟩
noncomputable def k177 (P : Params) : Obj := ⟨(.type "code"), none, (.fields (List.toArray [(.str (Str.ofString "__repr__") 674), (.str (Str.ofString "Match.__repr__") 675), (.str (Str.ofString "/claim/cut.py") 676), (.int (174) 0), (.int (1) 0), (.int (0) 0), (.int (0) 0), (.int (3) 0), (.ref 172), (.bool true), (.int (276) 0), (.ref 173), .none, (.ref 174), (.ref 175), (.ref 176), (.int (678) 0), (.int (174) 0), (.str (Str.ofString "/claim/cut.py") 679)])), List.toArray []⟩
noncomputable def k178 (P : Params) : Obj := ⟨(.type "function"), none, (.func (fnD (cAt 17 8) (Str.ofString "Match.__repr__") .none .none (.str (docS (cAt 17 8)) 680) (.str (Str.ofString "cpy313.difflib") 549) none (.ref 177) .none)), List.toArray []⟩
noncomputable def k179 (P : Params) : Obj := ⟨(.type "tuple"), none, (.seq (List.toArray []) 0), List.toArray []⟩
noncomputable def k181 (P : Params) : Obj := ⟨(.type "tuple"), none, (.seq (List.toArray [(.str (Str.ofString "self") 685)]) 0), List.toArray []⟩
noncomputable def k182 (P : Params) : Obj := ⟨(.type "tuple"), none, (.seq (List.toArray []) 0), List.toArray []⟩
noncomputable def k184 (P : Params) : Obj := ⟨(.type "code"), none, (.fields (List.toArray [(.str (Str.ofString "_asdict") 682), (.str (Str.ofString "Match._asdict") 683), (.str (Str.ofString "/claim/cut.py") 684), (.int (178) 0), (.int (1) 0), (.int (0) 0), (.int (0) 0), (.int (3) 0), (.ref 179), (.bool true), (.int (276) 0), (.ref 180), .none, (.ref 181), (.ref 182), (.ref 183), (.int (686) 0), (.int (178) 0), (.str (Str.ofString "/claim/cut.py") 687)])), List.toArray []⟩
noncomputable def k185 (P : Params) : Obj := ⟨(.type "function"), none, (.func (fnD (cAt 17 9) (Str.ofString "Match._asdict") .none .none .none (.str (Str.ofString "cpy313.difflib") 549) none (.ref 184) .none)), List.toArray []⟩
noncomputable def k186 (P : Params) : Obj := ⟨(.type "tuple"), none, (.seq (List.toArray []) 0), List.toArray []⟩
noncomputable def k188 (P : Params) : Obj := ⟨(.type "tuple"), none, (.seq (List.toArray [(.str (Str.ofString "self") 692)]) 0), List.toArray []⟩
noncomputable def k189 (P : Params) : Obj := ⟨(.type "tuple"), none, (.seq (List.toArray []) 0), List.toArray []⟩
noncomputable def k191 (P : Params) : Obj := ⟨(.type "code"), none, (.fields (List.toArray [(.str (Str.ofString "__getnewargs__") 689), (.str (Str.ofString "Match.__getnewargs__") 690), (.str (Str.ofString "/claim/cut.py") 691), (.int (181) 0), (.int (1) 0), (.int (0) 0), (.int (0) 0), (.int (3) 0), (.ref 186), (.bool true), (.int (276) 0), (.ref 187), .none, (.ref 188), (.ref 189), (.ref 190), (.int (693) 0), (.int (181) 0), (.str (Str.ofString "/claim/cut.py") 694)])), List.toArray []⟩
noncomputable def k192 (P : Params) : Obj := ⟨(.type "function"), none, (.func (fnD (cAt 17 10) (Str.ofString "Match.__getnewargs__") .none .none (.str (docS (cAt 17 10)) 695) (.str (Str.ofString "cpy313.difflib") 549) none (.ref 191) .none)), List.toArray []⟩
noncomputable def k193 (P : Params) : Obj := ⟨(.type "tuple"), none, (.seq (List.toArray [(.str (Str.ofString "a") 697), (.str (Str.ofString "b") 698), (.str (Str.ofString "size") 699)]) 0), List.toArray []⟩
noncomputable def k194 (P : Params) : Obj := ⟨(.type "dict"), none, (.dict (List.toArray [⟨PyData.keyHash P (Str.ofString "index"), (.str (Str.ofString "index") 707), (.int (0) 701)⟩, ⟨PyData.keyHash P (Str.ofString "__doc__"), (.str (Str.ofString "__doc__") 709), (.str (Str.ofString "Alias for field number 0") 702)⟩]) 2), List.toArray []⟩
noncomputable def k195 (P : Params) : Obj := ⟨(.ref 131), (some 194), .plain, List.toArray []⟩
noncomputable def k197 (P : Params) : Obj := ⟨(.type "dict"), none, (.dict (List.toArray [⟨PyData.keyHash P (Str.ofString "index"), (.str (Str.ofString "index") 717), (.int (1) 711)⟩, ⟨PyData.keyHash P (Str.ofString "__doc__"), (.str (Str.ofString "__doc__") 719), (.str (Str.ofString "Alias for field number 1") 712)⟩]) 2), List.toArray []⟩
noncomputable def k198 (P : Params) : Obj := ⟨(.ref 131), (some 197), .plain, List.toArray []⟩
noncomputable def k200 (P : Params) : Obj := ⟨(.type "dict"), none, (.dict (List.toArray [⟨PyData.keyHash P (Str.ofString "index"), (.str (Str.ofString "index") 727), (.int (2) 721)⟩, ⟨PyData.keyHash P (Str.ofString "__doc__"), (.str (Str.ofString "__doc__") 729), (.str (Str.ofString "Alias for field number 2") 722)⟩]) 2), List.toArray []⟩
noncomputable def k201 (P : Params) : Obj := ⟨(.ref 131), (some 200), .plain, List.toArray []⟩
noncomputable def k203 (P : Params) : Obj := ⟨(.type "tuple"), none, (.seq (List.toArray []) 0), List.toArray []⟩
noncomputable def k205 (P : Params) : Obj := ⟨(.type "dict"), none, (.dict (List.toArray [⟨PyData.keyHash P (Str.ofString "__module__"), (.str (Str.ofString "__module__") 615), (.str (Str.ofString "cpy313.difflib") 549)⟩, ⟨PyData.keyHash P (Str.ofString "__firstlineno__"), (.str (Str.ofString "__firstlineno__") 619), (.int (145) 618)⟩, ⟨PyData.keyHash P (Str.ofString "__doc__"), (.str (Str.ofString "__doc__") 621), (.str (Str.ofString "Match(a, b, size)") 620)⟩, ⟨PyData.keyHash P (Str.ofString "__slots__"), (.str (Str.ofString "__slots__") 623), (.ref 144)⟩, ⟨PyData.keyHash P (Str.ofString "_fields"), (.str (Str.ofString "_fields") 627), (.ref 145)⟩, ⟨PyData.keyHash P (Str.ofString "_field_defaults"), (.str (Str.ofString "_field_defaults") 628), (.ref 146)⟩, ⟨PyData.keyHash P (Str.ofString "__new__"), (.str (Str.ofString "__new__") 639), (.ref 207)⟩, ⟨PyData.keyHash P (Str.ofString "_make"), (.str (Str.ofString "_make") 661), (.ref 162)⟩, ⟨PyData.keyHash P (Str.ofString "_replace"), (.str (Str.ofString "_replace") 672), (.ref 171)⟩, ⟨PyData.keyHash P (Str.ofString "__replace__"), (.str (Str.ofString "__replace__") 673), (.ref 171)⟩, ⟨PyData.keyHash P (Str.ofString "__repr__"), (.str (Str.ofString "__repr__") 681), (.ref 178)⟩, ⟨PyData.keyHash P (Str.ofString "_asdict"), (.str (Str.ofString "_asdict") 688), (.ref 185)⟩, ⟨PyData.keyHash P (Str.ofString "__getnewargs__"), (.str (Str.ofString "__getnewargs__") 696), (.ref 192)⟩, ⟨PyData.keyHash P (Str.ofString "__match_args__"), (.str (Str.ofString "__match_args__") 700), (.ref 193)⟩, ⟨PyData.keyHash P (Str.ofString "a"), (.str (Str.ofString "a") 710), (.ref 195)⟩, ⟨PyData.keyHash P (Str.ofString "b"), (.str (Str.ofString "b") 720), (.ref 198)⟩, ⟨PyData.keyHash P (Str.ofString "size"), (.str (Str.ofString "size") 730), (.ref 201)⟩, ⟨PyData.keyHash P (Str.ofString "__static_attributes__"), (.str (Str.ofString "__static_attributes__") 731), (.ref 203)⟩]) 2), List.toArray []⟩
noncomputable def k206 (P : Params) : Obj := ⟨(.type "type"), none, (.cls { name := (Str.ofString "Match"), bases := [(.type "tuple")], mro := [(.ref 206), (.type "tuple"), (.type "object")], ns := 205, qualname := (Str.ofString "Match"), hasDict := false, slotNames := [], subclasses := [], abstract := false, collection := none, hasDel := false }), List.toArray [(some (.ref 136)), none, (some (.str (Str.ofString "Match") 608)), (some (.str (Str.ofString "Match") 616)), (some .none), (some (.bool false))]⟩
noncomputable def k207 (P : Params) : Obj := ⟨(.type "staticmethod"), none, (.fields (List.toArray [(.ref 153)])), List.toArray []⟩
noncomputable def k210 (P : Params) : Obj := ⟨(.type "tuple"), none, (.seq (List.toArray []) 0), List.toArray []⟩
noncomputable def k212 (P : Params) : Obj := ⟨(.type "tuple"), none, (.seq (List.toArray [(.str (Str.ofString "matches") 739), (.str (Str.ofString "length") 740)]) 0), List.toArray []⟩
noncomputable def k213 (P : Params) : Obj := ⟨(.type "tuple"), none, (.seq (List.toArray []) 0), List.toArray []⟩
noncomputable def k215 (P : Params) : Obj := ⟨(.type "code"), none, (.fields (List.toArray [(.str (Str.ofString "_calculate_ratio") 736), (.str (Str.ofString "_calculate_ratio") 737), (.str (Str.ofString "/claim/cut.py") 738), (.int (188) 0), (.int (2) 0), (.int (0) 0), (.int (0) 0), (.int (3) 0), (.ref 210), (.bool true), (.int (276) 0), (.ref 211), .none, (.ref 212), (.ref 213), (.ref 214), (.int (741) 0), (.int (188) 0), (.str (Str.ofString "/claim/cut.py") 742)])), List.toArray []⟩
noncomputable def k216 (P : Params) : Obj := ⟨(.type "function"), none, (.func (fnD (sAt 18) (Str.ofString "_calculate_ratio") .none .none .none (.str (Str.ofString "cpy313.difflib") 549) none (.ref 215) .none)), List.toArray []⟩
noncomputable def k224 (P : Params) : Obj := ⟨(.type "tuple"), none, (.seq (List.toArray [.none, (.str (Str.ofString "") 759), (.str (Str.ofString "") 760), (.bool true)]) 0), List.toArray []⟩
noncomputable def k225 (P : Params) : Obj := ⟨(.type "tuple"), none, (.seq (List.toArray []) 0), List.toArray []⟩
noncomputable def k227 (P : Params) : Obj := ⟨(.type "tuple"), none, (.seq (List.toArray [(.str (Str.ofString "self") 764), (.str (Str.ofString "isjunk") 765), (.str (Str.ofString "a") 766), (.str (Str.ofString "b") 767), (.str (Str.ofString "autojunk") 768)]) 0), List.toArray []⟩
noncomputable def k228 (P : Params) : Obj := ⟨(.type "tuple"), none, (.seq (List.toArray []) 0), List.toArray []⟩
noncomputable def k230 (P : Params) : Obj := ⟨(.type "code"), none, (.fields (List.toArray [(.str (Str.ofString "__init__") 761), (.str (Str.ofString "SequenceMatcher.__init__") 762), (.str (Str.ofString "/claim/cut.py") 763), (.int (267) 0), (.int (5) 0), (.int (0) 0), (.int (0) 0), (.int (3) 0), (.ref 225), (.bool true), (.int (276) 0), (.ref 226), .none, (.ref 227), (.ref 228), (.ref 229), (.int (769) 0), (.int (267) 0), (.str (Str.ofString "/claim/cut.py") 770)])), List.toArray []⟩
noncomputable def k231 (P : Params) : Obj := ⟨(.type "function"), none, (.func (fnD (cAt 19 1) (Str.ofString "SequenceMatcher.__init__") (.ref 224) .none (.str (docS (cAt 19 1)) 771) (.str (Str.ofString "cpy313.difflib") 549) none (.ref 230) .none)), List.toArray []⟩
noncomputable def k232 (P : Params) : Obj := ⟨(.type "tuple"), none, (.seq (List.toArray []) 0), List.toArray []⟩
noncomputable def k234 (P : Params) : Obj := ⟨(.type "tuple"), none, (.seq (List.toArray [(.str (Str.ofString "self") 776), (.str (Str.ofString "a") 777), (.str (Str.ofString "b") 778)]) 0), List.toArray []⟩
noncomputable def k235 (P : Params) : Obj := ⟨(.type "tuple"), none, (.seq (List.toArray []) 0), List.toArray []⟩
noncomputable def k237 (P : Params) : Obj := ⟨(.type "code"), none, (.fields (List.toArray [(.str (Str.ofString "set_seqs") 773), (.str (Str.ofString "SequenceMatcher.set_seqs") 774), (.str (Str.ofString "/claim/cut.py") 775), (.int (295) 0), (.int (3) 0), (.int (0) 0), (.int (0) 0), (.int (3) 0), (.ref 232), (.bool true), (.int (276) 0), (.ref 233), .none, (.ref 234), (.ref 235), (.ref 236), (.int (779) 0), (.int (295) 0), (.str (Str.ofString "/claim/cut.py") 780)])), List.toArray []⟩
noncomputable def k238 (P : Params) : Obj := ⟨(.type "function"), none, (.func (fnD (cAt 19 2) (Str.ofString "SequenceMatcher.set_seqs") .none .none (.str (docS (cAt 19 2)) 781) (.str (Str.ofString "cpy313.difflib") 549) none (.ref 237) .none)), List.toArray []⟩
noncomputable def k239 (P : Params) : Obj := ⟨(.type "tuple"), none, (.seq (List.toArray []) 0), List.toArray []⟩
noncomputable def k241 (P : Params) : Obj := ⟨(.type "tuple"), none, (.seq (List.toArray [(.str (Str.ofString "self") 786), (.str (Str.ofString "a") 787)]) 0), List.toArray []⟩
noncomputable def k242 (P : Params) : Obj := ⟨(.type "tuple"), none, (.seq (List.toArray []) 0), List.toArray []⟩
noncomputable def k244 (P : Params) : Obj := ⟨(.type "code"), none, (.fields (List.toArray [(.str (Str.ofString "set_seq1") 783), (.str (Str.ofString "SequenceMatcher.set_seq1") 784), (.str (Str.ofString "/claim/cut.py") 785), (.int (306) 0), (.int (2) 0), (.int (0) 0), (.int (0) 0), (.int (3) 0), (.ref 239), (.bool true), (.int (276) 0), (.ref 240), .none, (.ref 241), (.ref 242), (.ref 243), (.int (788) 0), (.int (306) 0), (.str (Str.ofString "/claim/cut.py") 789)])), List.toArray []⟩
noncomputable def k245 (P : Params) : Obj := ⟨(.type "function"), none, (.func (fnD (cAt 19 3) (Str.ofString "SequenceMatcher.set_seq1") .none .none (.str (docS (cAt 19 3)) 790) (.str (Str.ofString "cpy313.difflib") 549) none (.ref 244) .none)), List.toArray []⟩
noncomputable def k246 (P : Params) : Obj := ⟨(.type "tuple"), none, (.seq (List.toArray []) 0), List.toArray []⟩
noncomputable def k248 (P : Params) : Obj := ⟨(.type "tuple"), none, (.seq (List.toArray [(.str (Str.ofString "self") 795), (.str (Str.ofString "b") 796)]) 0), List.toArray []⟩
noncomputable def k249 (P : Params) : Obj := ⟨(.type "tuple"), none, (.seq (List.toArray []) 0), List.toArray []⟩
noncomputable def k251 (P : Params) : Obj := ⟨(.type "code"), none, (.fields (List.toArray [(.str (Str.ofString "set_seq2") 792), (.str (Str.ofString "SequenceMatcher.set_seq2") 793), (.str (Str.ofString "/claim/cut.py") 794), (.int (331) 0), (.int (2) 0), (.int (0) 0), (.int (0) 0), (.int (3) 0), (.ref 246), (.bool true), (.int (276) 0), (.ref 247), .none, (.ref 248), (.ref 249), (.ref 250), (.int (797) 0), (.int (331) 0), (.str (Str.ofString "/claim/cut.py") 798)])), List.toArray []⟩
noncomputable def k252 (P : Params) : Obj := ⟨(.type "function"), none, (.func (fnD (cAt 19 4) (Str.ofString "SequenceMatcher.set_seq2") .none .none (.str (docS (cAt 19 4)) 799) (.str (Str.ofString "cpy313.difflib") 549) none (.ref 251) .none)), List.toArray []⟩
noncomputable def k253 (P : Params) : Obj := ⟨(.type "tuple"), none, (.seq (List.toArray []) 0), List.toArray []⟩
noncomputable def k255 (P : Params) : Obj := ⟨(.type "tuple"), none, (.seq (List.toArray [(.str (Str.ofString "self") 804), (.str (Str.ofString "b") 805), (.str (Str.ofString "b2j") 806), (.str (Str.ofString "i") 807), (.str (Str.ofString "elt") 808), (.str (Str.ofString "indices") 809), (.str (Str.ofString "junk") 810), (.str (Str.ofString "isjunk") 811), (.str (Str.ofString "popular") 812), (.str (Str.ofString "n") 813), (.str (Str.ofString "ntest") 814), (.str (Str.ofString "idxs") 815)]) 0), List.toArray []⟩
noncomputable def k256 (P : Params) : Obj := ⟨(.type "tuple"), none, (.seq (List.toArray []) 0), List.toArray []⟩
noncomputable def k258 (P : Params) : Obj := ⟨(.type "code"), none, (.fields (List.toArray [(.str (Str.ofString "__chain_b") 801), (.str (Str.ofString "SequenceMatcher.__chain_b") 802), (.str (Str.ofString "/claim/cut.py") 803), (.int (358) 0), (.int (1) 0), (.int (0) 0), (.int (0) 0), (.int (3) 0), (.ref 253), (.bool true), (.int (276) 0), (.ref 254), .none, (.ref 255), (.ref 256), (.ref 257), (.int (816) 0), (.int (358) 0), (.str (Str.ofString "/claim/cut.py") 817)])), List.toArray []⟩
noncomputable def k259 (P : Params) : Obj := ⟨(.type "function"), none, (.func (fnD (cAt 19 5) (Str.ofString "SequenceMatcher.__chain_b") .none .none .none (.str (Str.ofString "cpy313.difflib") 549) none (.ref 258) .none)), List.toArray []⟩
noncomputable def k260 (P : Params) : Obj := ⟨(.type "tuple"), none, (.seq (List.toArray [(.int (0) 819), .none, (.int (0) 820), .none]) 0), List.toArray []⟩
noncomputable def k261 (P : Params) : Obj := ⟨(.type "tuple"), none, (.seq (List.toArray []) 0), List.toArray []⟩
noncomputable def k263 (P : Params) : Obj := ⟨(.type "tuple"), none, (.seq (List.toArray [(.str (Str.ofString "self") 824), (.str (Str.ofString "alo") 825), (.str (Str.ofString "ahi") 826), (.str (Str.ofString "blo") 827), (.str (Str.ofString "bhi") 828), (.str (Str.ofString "a") 829), (.str (Str.ofString "b") 830), (.str (Str.ofString "b2j") 831), (.str (Str.ofString "isbjunk") 832), (.str (Str.ofString "besti") 833), (.str (Str.ofString "bestj") 834), (.str (Str.ofString "bestsize") 835), (.str (Str.ofString "j2len") 836), (.str (Str.ofString "nothing") 837), (.str (Str.ofString "i") 838), (.str (Str.ofString "j2lenget") 839), (.str (Str.ofString "newj2len") 840), (.str (Str.ofString "j") 841), (.str (Str.ofString "k") 842)]) 0), List.toArray []⟩
noncomputable def k264 (P : Params) : Obj := ⟨(.type "tuple"), none, (.seq (List.toArray []) 0), List.toArray []⟩
noncomputable def k266 (P : Params) : Obj := ⟨(.type "code"), none, (.fields (List.toArray [(.str (Str.ofString "find_longest_match") 821), (.str (Str.ofString "SequenceMatcher.find_longest_match") 822), (.str (Str.ofString "/claim/cut.py") 823), (.int (382) 0), (.int (5) 0), (.int (0) 0), (.int (0) 0), (.int (3) 0), (.ref 261), (.bool true), (.int (276) 0), (.ref 262), .none, (.ref 263), (.ref 264), (.ref 265), (.int (843) 0), (.int (382) 0), (.str (Str.ofString "/claim/cut.py") 844)])), List.toArray []⟩
noncomputable def k267 (P : Params) : Obj := ⟨(.type "function"), none, (.func (fnD (cAt 19 6) (Str.ofString "SequenceMatcher.find_longest_match") (.ref 260) .none (.str (docS (cAt 19 6)) 845) (.str (Str.ofString "cpy313.difflib") 549) none (.ref 266) .none)), List.toArray []⟩
noncomputable def k268 (P : Params) : Obj := ⟨(.type "tuple"), none, (.seq (List.toArray []) 0), List.toArray []⟩
noncomputable def k270 (P : Params) : Obj := ⟨(.type "tuple"), none, (.seq (List.toArray [(.str (Str.ofString "self") 850), (.str (Str.ofString "la") 851), (.str (Str.ofString "lb") 852), (.str (Str.ofString "queue") 853), (.str (Str.ofString "matching_blocks") 854), (.str (Str.ofString "alo") 855), (.str (Str.ofString "ahi") 856), (.str (Str.ofString "blo") 857), (.str (Str.ofString "bhi") 858), (.str (Str.ofString "i") 859), (.str (Str.ofString "j") 860), (.str (Str.ofString "k") 861), (.str (Str.ofString "x") 862), (.str (Str.ofString "i1") 863), (.str (Str.ofString "j1") 864), (.str (Str.ofString "k1") 865), (.str (Str.ofString "non_adjacent") 866), (.str (Str.ofString "i2") 867), (.str (Str.ofString "j2") 868), (.str (Str.ofString "k2") 869)]) 0), List.toArray []⟩
noncomputable def k271 (P : Params) : Obj := ⟨(.type "tuple"), none, (.seq (List.toArray []) 0), List.toArray []⟩
noncomputable def k273 (P : Params) : Obj := ⟨(.type "code"), none, (.fields (List.toArray [(.str (Str.ofString "get_matching_blocks") 847), (.str (Str.ofString "SequenceMatcher.get_matching_blocks") 848), (.str (Str.ofString "/claim/cut.py") 849), (.int (457) 0), (.int (1) 0), (.int (0) 0), (.int (0) 0), (.int (3) 0), (.ref 268), (.bool true), (.int (276) 0), (.ref 269), .none, (.ref 270), (.ref 271), (.ref 272), (.int (870) 0), (.int (457) 0), (.str (Str.ofString "/claim/cut.py") 871)])), List.toArray []⟩
noncomputable def k274 (P : Params) : Obj := ⟨(.type "function"), none, (.func (fnD (cAt 19 7) (Str.ofString "SequenceMatcher.get_matching_blocks") .none .none (.str (docS (cAt 19 7)) 872) (.str (Str.ofString "cpy313.difflib") 549) none (.ref 273) .none)), List.toArray []⟩
noncomputable def k275 (P : Params) : Obj := ⟨(.type "tuple"), none, (.seq (List.toArray []) 0), List.toArray []⟩
noncomputable def k277 (P : Params) : Obj := ⟨(.type "tuple"), none, (.seq (List.toArray [(.str (Str.ofString "self") 877)]) 0), List.toArray []⟩
noncomputable def k278 (P : Params) : Obj := ⟨(.type "tuple"), none, (.seq (List.toArray []) 0), List.toArray []⟩
noncomputable def k280 (P : Params) : Obj := ⟨(.type "code"), none, (.fields (List.toArray [(.str (Str.ofString "get_opcodes") 874), (.str (Str.ofString "SequenceMatcher.get_opcodes") 875), (.str (Str.ofString "/claim/cut.py") 876), (.int (505) 0), (.int (1) 0), (.int (0) 0), (.int (0) 0), (.int (3) 0), (.ref 275), (.bool true), (.int (276) 0), (.ref 276), .none, (.ref 277), (.ref 278), (.ref 279), (.int (878) 0), (.int (505) 0), (.str (Str.ofString "/claim/cut.py") 879)])), List.toArray []⟩
noncomputable def k281 (P : Params) : Obj := ⟨(.type "function"), none, (.func (fnD (cAt 19 8) (Str.ofString "SequenceMatcher.get_opcodes") .none .none .none (.str (Str.ofString "cpy313.difflib") 549) none (.ref 280) .none)), List.toArray []⟩
noncomputable def k282 (P : Params) : Obj := ⟨(.type "tuple"), none, (.seq (List.toArray [(.int (3) 881)]) 0), List.toArray []⟩
noncomputable def k283 (P : Params) : Obj := ⟨(.type "tuple"), none, (.seq (List.toArray []) 0), List.toArray []⟩
noncomputable def k285 (P : Params) : Obj := ⟨(.type "tuple"), none, (.seq (List.toArray [(.str (Str.ofString "self") 885), (.str (Str.ofString "n") 886)]) 0), List.toArray []⟩
noncomputable def k286 (P : Params) : Obj := ⟨(.type "tuple"), none, (.seq (List.toArray []) 0), List.toArray []⟩
noncomputable def k288 (P : Params) : Obj := ⟨(.type "code"), none, (.fields (List.toArray [(.str (Str.ofString "get_grouped_opcodes") 882), (.str (Str.ofString "SequenceMatcher.get_grouped_opcodes") 883), (.str (Str.ofString "/claim/cut.py") 884), (.int (508) 0), (.int (2) 0), (.int (0) 0), (.int (0) 0), (.int (3) 0), (.ref 283), (.bool true), (.int (276) 0), (.ref 284), .none, (.ref 285), (.ref 286), (.ref 287), (.int (887) 0), (.int (508) 0), (.str (Str.ofString "/claim/cut.py") 888)])), List.toArray []⟩
noncomputable def k289 (P : Params) : Obj := ⟨(.type "function"), none, (.func (fnD (cAt 19 9) (Str.ofString "SequenceMatcher.get_grouped_opcodes") (.ref 282) .none .none (.str (Str.ofString "cpy313.difflib") 549) none (.ref 288) .none)), List.toArray []⟩
noncomputable def k290 (P : Params) : Obj := ⟨(.type "tuple"), none, (.seq (List.toArray []) 0), List.toArray []⟩
noncomputable def k292 (P : Params) : Obj := ⟨(.type "tuple"), none, (.seq (List.toArray [(.str (Str.ofString "self") 893), (.str (Str.ofString "matches") 894)]) 0), List.toArray []⟩
noncomputable def k293 (P : Params) : Obj := ⟨(.type "tuple"), none, (.seq (List.toArray []) 0), List.toArray []⟩
noncomputable def k295 (P : Params) : Obj := ⟨(.type "code"), none, (.fields (List.toArray [(.str (Str.ofString "ratio") 890), (.str (Str.ofString "SequenceMatcher.ratio") 891), (.str (Str.ofString "/claim/cut.py") 892), (.int (511) 0), (.int (1) 0), (.int (0) 0), (.int (0) 0), (.int (3) 0), (.ref 290), (.bool true), (.int (276) 0), (.ref 291), .none, (.ref 292), (.ref 293), (.ref 294), (.int (895) 0), (.int (511) 0), (.str (Str.ofString "/claim/cut.py") 896)])), List.toArray []⟩
noncomputable def k296 (P : Params) : Obj := ⟨(.type "function"), none, (.func (fnD (cAt 19 10) (Str.ofString "SequenceMatcher.ratio") .none .none (.str (docS (cAt 19 10)) 897) (.str (Str.ofString "cpy313.difflib") 549) none (.ref 295) .none)), List.toArray []⟩
noncomputable def k297 (P : Params) : Obj := ⟨(.type "tuple"), none, (.seq (List.toArray []) 0), List.toArray []⟩
noncomputable def k299 (P : Params) : Obj := ⟨(.type "tuple"), none, (.seq (List.toArray [(.str (Str.ofString "self") 902)]) 0), List.toArray []⟩
noncomputable def k300 (P : Params) : Obj := ⟨(.type "tuple"), none, (.seq (List.toArray []) 0), List.toArray []⟩
noncomputable def k302 (P : Params) : Obj := ⟨(.type "code"), none, (.fields (List.toArray [(.str (Str.ofString "quick_ratio") 899), (.str (Str.ofString "SequenceMatcher.quick_ratio") 900), (.str (Str.ofString "/claim/cut.py") 901), (.int (535) 0), (.int (1) 0), (.int (0) 0), (.int (0) 0), (.int (3) 0), (.ref 297), (.bool true), (.int (276) 0), (.ref 298), .none, (.ref 299), (.ref 300), (.ref 301), (.int (903) 0), (.int (535) 0), (.str (Str.ofString "/claim/cut.py") 904)])), List.toArray []⟩
noncomputable def k303 (P : Params) : Obj := ⟨(.type "function"), none, (.func (fnD (cAt 19 11) (Str.ofString "SequenceMatcher.quick_ratio") .none .none .none (.str (Str.ofString "cpy313.difflib") 549) none (.ref 302) .none)), List.toArray []⟩
noncomputable def k304 (P : Params) : Obj := ⟨(.type "tuple"), none, (.seq (List.toArray []) 0), List.toArray []⟩
noncomputable def k306 (P : Params) : Obj := ⟨(.type "tuple"), none, (.seq (List.toArray [(.str (Str.ofString "self") 909)]) 0), List.toArray []⟩
noncomputable def k307 (P : Params) : Obj := ⟨(.type "tuple"), none, (.seq (List.toArray []) 0), List.toArray []⟩
noncomputable def k309 (P : Params) : Obj := ⟨(.type "code"), none, (.fields (List.toArray [(.str (Str.ofString "real_quick_ratio") 906), (.str (Str.ofString "SequenceMatcher.real_quick_ratio") 907), (.str (Str.ofString "/claim/cut.py") 908), (.int (538) 0), (.int (1) 0), (.int (0) 0), (.int (0) 0), (.int (3) 0), (.ref 304), (.bool true), (.int (276) 0), (.ref 305), .none, (.ref 306), (.ref 307), (.ref 308), (.int (910) 0), (.int (538) 0), (.str (Str.ofString "/claim/cut.py") 911)])), List.toArray []⟩
noncomputable def k310 (P : Params) : Obj := ⟨(.type "function"), none, (.func (fnD (cAt 19 12) (Str.ofString "SequenceMatcher.real_quick_ratio") .none .none .none (.str (Str.ofString "cpy313.difflib") 549) none (.ref 309) .none)), List.toArray []⟩
noncomputable def k311 (P : Params) : Obj := ⟨(.type "tuple"), none, (.seq (List.toArray [(.str (Str.ofString "a") 913), (.str (Str.ofString "autojunk") 914), (.str (Str.ofString "b") 915), (.str (Str.ofString "b2j") 916), (.str (Str.ofString "bjunk") 917), (.str (Str.ofString "bpopular") 918), (.str (Str.ofString "fullbcount") 919), (.str (Str.ofString "isjunk") 920), (.str (Str.ofString "matching_blocks") 921), (.str (Str.ofString "opcodes") 922)]) 0), List.toArray []⟩
noncomputable def k312 (P : Params) : Obj := ⟨(.type "dict"), none, (.dict (List.toArray [⟨PyData.keyHash P (Str.ofString "__module__"), (.str (Str.ofString "__module__") 751), (.str (Str.ofString "cpy313.difflib") 549)⟩, ⟨PyData.keyHash P (Str.ofString "__firstlineno__"), (.str (Str.ofString "__firstlineno__") 755), (.int (192) 754)⟩, ⟨PyData.keyHash P (Str.ofString "__doc__"), (.str (Str.ofString "__doc__") 757), (.str (Str.mk (Array.mk docNs)) 756)⟩, ⟨PyData.keyHash P (Str.ofString "__init__"), (.str (Str.ofString "__init__") 772), (.ref 231)⟩, ⟨PyData.keyHash P (Str.ofString "set_seqs"), (.str (Str.ofString "set_seqs") 782), (.ref 238)⟩, ⟨PyData.keyHash P (Str.ofString "set_seq1"), (.str (Str.ofString "set_seq1") 791), (.ref 245)⟩, ⟨PyData.keyHash P (Str.ofString "set_seq2"), (.str (Str.ofString "set_seq2") 800), (.ref 252)⟩, ⟨PyData.keyHash P (Str.ofString "_SequenceMatcher__chain_b"), (.str (Str.ofString "_SequenceMatcher__chain_b") 818), (.ref 259)⟩, ⟨PyData.keyHash P (Str.ofString "find_longest_match"), (.str (Str.ofString "find_longest_match") 846), (.ref 267)⟩, ⟨PyData.keyHash P (Str.ofString "get_matching_blocks"), (.str (Str.ofString "get_matching_blocks") 873), (.ref 274)⟩, ⟨PyData.keyHash P (Str.ofString "get_opcodes"), (.str (Str.ofString "get_opcodes") 880), (.ref 281)⟩, ⟨PyData.keyHash P (Str.ofString "get_grouped_opcodes"), (.str (Str.ofString "get_grouped_opcodes") 889), (.ref 289)⟩, ⟨PyData.keyHash P (Str.ofString "ratio"), (.str (Str.ofString "ratio") 898), (.ref 296)⟩, ⟨PyData.keyHash P (Str.ofString "quick_ratio"), (.str (Str.ofString "quick_ratio") 905), (.ref 303)⟩, ⟨PyData.keyHash P (Str.ofString "real_quick_ratio"), (.str (Str.ofString "real_quick_ratio") 912), (.ref 310)⟩, ⟨PyData.keyHash P (Str.ofString "__static_attributes__"), (.str (Str.ofString "__static_attributes__") 923), (.ref 311)⟩, ⟨PyData.keyHash P (Str.ofString "__dict__"), (.str (Str.ofString "__dict__") 925), (.ref 314)⟩, ⟨PyData.keyHash P (Str.ofString "__weakref__"), (.str (Str.ofString "__weakref__") 927), (.ref 315)⟩]) 3), List.toArray []⟩
noncomputable def k313 (P : Params) : Obj := ⟨(.type "type"), none, (.cls { name := (Str.ofString "SequenceMatcher"), bases := [(.type "object")], mro := [(.ref 313), (.type "object")], ns := 312, qualname := (Str.ofString "SequenceMatcher"), hasDict := true, slotNames := [], subclasses := [], abstract := false, collection := none, hasDel := false }), List.toArray [none, none, (some (.str (Str.ofString "SequenceMatcher") 744)), (some (.str (Str.ofString "SequenceMatcher") 752)), (some (.builtin "object.__new__")), (some (.bool true))]⟩
noncomputable def k314 (P : Params) : Obj := ⟨(.type "getset_descriptor"), none, (.fields (List.toArray [(.str (Str.ofString "__dict__") 924), (.ref 313), (.builtin "function.__dict__"), (.builtin "function.__dict__#set")])), List.toArray []⟩
noncomputable def k315 (P : Params) : Obj := ⟨(.type "getset_descriptor"), none, (.fields (List.toArray [(.str (Str.ofString "__weakref__") 926), (.ref 313), (.builtin "ExceptionGroup.__weakref__"), .none])), List.toArray []⟩
noncomputable def k318 (P : Params) : Obj := ⟨(.type "tuple"), none, (.seq (List.toArray []) 0), List.toArray []⟩
noncomputable def k320 (P : Params) : Obj := ⟨(.type "tuple"), none, (.seq (List.toArray [(.str (Str.ofString "row") 935), (.str (Str.ofString "numbers") 936), (.str (Str.ofString "other") 937), (.str (Str.ofString "x") 938)]) 0), List.toArray []⟩
noncomputable def k321 (P : Params) : Obj := ⟨(.type "tuple"), none, (.seq (List.toArray []) 0), List.toArray []⟩
noncomputable def k323 (P : Params) : Obj := ⟨(.type "code"), none, (.fields (List.toArray [(.str (Str.ofString "_law_changed") 932), (.str (Str.ofString "_law_changed") 933), (.str (Str.ofString "/claim/cut.py") 934), (.int (541) 0), (.int (2) 0), (.int (0) 0), (.int (0) 0), (.int (3) 0), (.ref 318), (.bool true), (.int (276) 0), (.ref 319), .none, (.ref 320), (.ref 321), (.ref 322), (.int (939) 0), (.int (541) 0), (.str (Str.ofString "/claim/cut.py") 940)])), List.toArray []⟩
noncomputable def k324 (P : Params) : Obj := ⟨(.type "function"), none, (.func (fnD (sAt 21) (Str.ofString "_law_changed") .none .none .none (.str (Str.ofString "law_ik0097_01") 930) none (.ref 323) .none)), List.toArray []⟩
noncomputable def k325 (P : Params) : Obj := ⟨(.type "tuple"), none, (.seq (List.toArray []) 0), List.toArray []⟩
noncomputable def k328 (P : Params) : Obj := ⟨(.type "code"), none, (.fields (List.toArray [(.str (Str.ofString "_law_coded") 942), (.str (Str.ofString "_law_coded") 943), (.str (Str.ofString "/claim/cut.py") 944), (.int (546) 0), (.int (1) 0), (.int (0) 0), (.int (0) 0), (.int (3) 0), (.ref 325), (.bool true), (.int (276) 0), (.ref 326), .none, .none, .none, (.ref 327), (.int (945) 0), (.int (546) 0), (.str (Str.ofString "/claim/cut.py") 946)])), List.toArray []⟩
noncomputable def k329 (P : Params) : Obj := ⟨(.type "function"), none, (.func (fnD (sAt 22) (Str.ofString "_law_coded") .none .none .none (.str (Str.ofString "law_ik0097_01") 930) none (.ref 328) .none)), List.toArray []⟩
noncomputable def k330 (P : Params) : Obj := ⟨(.type "tuple"), none, (.seq (List.toArray []) 0), List.toArray []⟩
noncomputable def k332 (P : Params) : Obj := ⟨(.type "tuple"), none, (.seq (List.toArray [(.str (Str.ofString "first") 951), (.str (Str.ofString "second") 952), (.str (Str.ofString "best") 953), (.str (Str.ofString "i") 954), (.str (Str.ofString "j") 955), (.str (Str.ofString "size") 956)]) 0), List.toArray []⟩
noncomputable def k333 (P : Params) : Obj := ⟨(.type "tuple"), none, (.seq (List.toArray []) 0), List.toArray []⟩
noncomputable def k335 (P : Params) : Obj := ⟨(.type "code"), none, (.fields (List.toArray [(.str (Str.ofString "_law_longest") 948), (.str (Str.ofString "_law_longest") 949), (.str (Str.ofString "/claim/cut.py") 950), (.int (553) 0), (.int (2) 0), (.int (0) 0), (.int (0) 0), (.int (3) 0), (.ref 330), (.bool true), (.int (276) 0), (.ref 331), .none, (.ref 332), (.ref 333), (.ref 334), (.int (957) 0), (.int (553) 0), (.str (Str.ofString "/claim/cut.py") 958)])), List.toArray []⟩
noncomputable def k336 (P : Params) : Obj := ⟨(.type "function"), none, (.func (fnD (sAt 23) (Str.ofString "_law_longest") .none .none .none (.str (Str.ofString "law_ik0097_01") 930) none (.ref 335) .none)), List.toArray []⟩
noncomputable def k337 (P : Params) : Obj := ⟨(.type "tuple"), none, (.seq (List.toArray []) 0), List.toArray []⟩
noncomputable def k339 (P : Params) : Obj := ⟨(.type "tuple"), none, (.seq (List.toArray [(.str (Str.ofString "first") 963), (.str (Str.ofString "second") 964), (.str (Str.ofString "i") 965), (.str (Str.ofString "j") 966), (.str (Str.ofString "x") 967), (.str (Str.ofString "y") 968), (.str (Str.ofString "size") 969), (.str (Str.ofString "behind") 970)]) 0), List.toArray []⟩
noncomputable def k340 (P : Params) : Obj := ⟨(.type "tuple"), none, (.seq (List.toArray []) 0), List.toArray []⟩
noncomputable def k342 (P : Params) : Obj := ⟨(.type "code"), none, (.fields (List.toArray [(.str (Str.ofString "_law_blocks") 960), (.str (Str.ofString "_law_blocks") 961), (.str (Str.ofString "/claim/cut.py") 962), (.int (563) 0), (.int (4) 0), (.int (0) 0), (.int (0) 0), (.int (3) 0), (.ref 337), (.bool true), (.int (276) 0), (.ref 338), .none, (.ref 339), (.ref 340), (.ref 341), (.int (971) 0), (.int (563) 0), (.str (Str.ofString "/claim/cut.py") 972)])), List.toArray []⟩
noncomputable def k343 (P : Params) : Obj := ⟨(.type "function"), none, (.func (fnD (sAt 24) (Str.ofString "_law_blocks") .none .none .none (.str (Str.ofString "law_ik0097_01") 930) none (.ref 342) .none)), List.toArray []⟩
noncomputable def k344 (P : Params) : Obj := ⟨(.type "tuple"), none, (.seq (List.toArray []) 0), List.toArray []⟩
noncomputable def k346 (P : Params) : Obj := ⟨(.type "tuple"), none, (.seq (List.toArray [(.str (Str.ofString "first") 977), (.str (Str.ofString "second") 978), (.str (Str.ofString "blocks") 979), (.str (Str.ofString "pieces") 980), (.str (Str.ofString "both") 981), (.str (Str.ofString "i") 982), (.str (Str.ofString "j") 983), (.str (Str.ofString "x") 984), (.str (Str.ofString "y") 985), (.str (Str.ofString "size") 986)]) 0), List.toArray []⟩
noncomputable def k347 (P : Params) : Obj := ⟨(.type "tuple"), none, (.seq (List.toArray []) 0), List.toArray []⟩
noncomputable def k349 (P : Params) : Obj := ⟨(.type "code"), none, (.fields (List.toArray [(.str (Str.ofString "_law_joined") 974), (.str (Str.ofString "_law_joined") 975), (.str (Str.ofString "/claim/cut.py") 976), (.int (569) 0), (.int (3) 0), (.int (0) 0), (.int (0) 0), (.int (3) 0), (.ref 344), (.bool true), (.int (276) 0), (.ref 345), .none, (.ref 346), (.ref 347), (.ref 348), (.int (987) 0), (.int (569) 0), (.str (Str.ofString "/claim/cut.py") 988)])), List.toArray []⟩
noncomputable def k350 (P : Params) : Obj := ⟨(.type "function"), none, (.func (fnD (sAt 25) (Str.ofString "_law_joined") .none .none .none (.str (Str.ofString "law_ik0097_01") 930) none (.ref 349) .none)), List.toArray []⟩
noncomputable def k351 (P : Params) : Obj := ⟨(.type "tuple"), none, (.seq (List.toArray []) 0), List.toArray []⟩
noncomputable def k354 (P : Params) : Obj := ⟨(.type "code"), none, (.fields (List.toArray [(.str (Str.ofString "_law_fits") 990), (.str (Str.ofString "_law_fits") 991), (.str (Str.ofString "/claim/cut.py") 992), (.int (579) 0), (.int (3) 0), (.int (0) 0), (.int (0) 0), (.int (3) 0), (.ref 351), (.bool true), (.int (276) 0), (.ref 352), .none, .none, .none, (.ref 353), (.int (993) 0), (.int (579) 0), (.str (Str.ofString "/claim/cut.py") 994)])), List.toArray []⟩
noncomputable def k355 (P : Params) : Obj := ⟨(.type "function"), none, (.func (fnD (sAt 26) (Str.ofString "_law_fits") .none .none .none (.str (Str.ofString "law_ik0097_01") 930) none (.ref 354) .none)), List.toArray []⟩
noncomputable def k356 (P : Params) : Obj := ⟨(.type "tuple"), none, (.seq (List.toArray []) 0), List.toArray []⟩
noncomputable def k358 (P : Params) : Obj := ⟨(.type "tuple"), none, (.seq (List.toArray [(.str (Str.ofString "pieces") 999), (.str (Str.ofString "text") 1000), (.str (Str.ofString "last") 1001), (.str (Str.ofString "place") 1002), (.str (Str.ofString "piece") 1003), (.str (Str.ofString "found") 1004)]) 0), List.toArray []⟩
noncomputable def k359 (P : Params) : Obj := ⟨(.type "tuple"), none, (.seq (List.toArray []) 0), List.toArray []⟩
noncomputable def k361 (P : Params) : Obj := ⟨(.type "code"), none, (.fields (List.toArray [(.str (Str.ofString "_law_said") 996), (.str (Str.ofString "_law_said") 997), (.str (Str.ofString "/claim/cut.py") 998), (.int (587) 0), (.int (2) 0), (.int (0) 0), (.int (0) 0), (.int (3) 0), (.ref 356), (.bool true), (.int (276) 0), (.ref 357), .none, (.ref 358), (.ref 359), (.ref 360), (.int (1005) 0), (.int (587) 0), (.str (Str.ofString "/claim/cut.py") 1006)])), List.toArray []⟩
noncomputable def k362 (P : Params) : Obj := ⟨(.type "function"), none, (.func (fnD (sAt 27) (Str.ofString "_law_said") .none .none .none (.str (Str.ofString "law_ik0097_01") 930) none (.ref 361) .none)), List.toArray []⟩
noncomputable def k363 (P : Params) : Obj := ⟨(.type "tuple"), none, (.seq (List.toArray []) 0), List.toArray []⟩
noncomputable def k366 (P : Params) : Obj := ⟨(.type "code"), none, (.fields (List.toArray [(.str (Str.ofString "law") 1008), (.str (Str.ofString "law") 1009), (.str (Str.ofString "/claim/cut.py") 1010), (.int (600) 0), (.int (1) 0), (.int (0) 0), (.int (0) 0), (.int (3) 0), (.ref 363), (.bool true), (.int (276) 0), (.ref 364), .none, .none, .none, (.ref 365), (.int (1011) 0), (.int (600) 0), (.str (Str.ofString "/claim/cut.py") 1012)])), List.toArray []⟩
noncomputable def k367 (P : Params) : Obj := ⟨(.type "function"), none, (.func (fnD (sAt 28) (Str.ofString "law") .none .none .none (.str (Str.ofString "law_ik0097_01") 930) none (.ref 366) .none)), List.toArray []⟩
noncomputable def Kx (P : Params) : Frag := (nat_lit 2, k2 P) :: (nat_lit 3, k3 P) :: (nat_lit 32, k32 P) :: (nat_lit 34, k34 P) :: (nat_lit 35, k35 P) :: (nat_lit 37, k37 P) :: (nat_lit 38, k38 P) :: (nat_lit 42, k42 P) :: (nat_lit 43, k43 P) :: (nat_lit 45, k45 P) :: (nat_lit 49, k49 P) :: (nat_lit 51, k51 P) :: (nat_lit 52, k52 P) :: (nat_lit 54, k54 P) :: (nat_lit 55, k55 P) :: (nat_lit 56, k56 P) :: (nat_lit 58, k58 P) :: (nat_lit 59, k59 P) :: (nat_lit 61, k61 P) :: (nat_lit 62, k62 P) :: (nat_lit 63, k63 P) :: (nat_lit 65, k65 P) :: (nat_lit 66, k66 P) :: (nat_lit 68, k68 P) :: (nat_lit 69, k69 P) :: (nat_lit 70, k70 P) :: (nat_lit 72, k72 P) :: (nat_lit 73, k73 P) :: (nat_lit 75, k75 P) :: (nat_lit 76, k76 P) :: (nat_lit 77, k77 P) :: (nat_lit 78, k78 P) :: (nat_lit 80, k80 P) :: (nat_lit 81, k81 P) :: (nat_lit 83, k83 P) :: (nat_lit 84, k84 P) :: (nat_lit 85, k85 P) :: (nat_lit 86, k86 P) :: (nat_lit 88, k88 P) :: (nat_lit 89, k89 P) :: (nat_lit 91, k91 P) :: (nat_lit 92, k92 P) :: (nat_lit 100, k100 P) :: (nat_lit 102, k102 P) :: (nat_lit 103, k103 P) :: (nat_lit 105, k105 P) :: (nat_lit 106, k106 P) :: (nat_lit 107, k107 P) :: (nat_lit 108, k108 P) :: (nat_lit 110, k110 P) :: (nat_lit 111, k111 P) :: (nat_lit 113, k113 P) :: (nat_lit 114, k114 P) :: (nat_lit 115, k115 P) :: (nat_lit 117, k117 P) :: (nat_lit 118, k118 P) :: (nat_lit 120, k120 P) :: (nat_lit 121, k121 P) :: (nat_lit 122, k122 P) :: (nat_lit 124, k124 P) :: (nat_lit 125, k125 P) :: (nat_lit 127, k127 P) :: (nat_lit 128, k128 P) :: (nat_lit 129, k129 P) :: (nat_lit 130, k130 P) :: (nat_lit 131, k131 P) :: (nat_lit 132, k132 P) :: (nat_lit 133, k133 P) :: (nat_lit 136, k136 P) :: (nat_lit 139, k139 P) :: (nat_lit 144, k144 P) :: (nat_lit 145, k145 P) :: (nat_lit 146, k146 P) :: (nat_lit 147, k147 P) :: (nat_lit 149, k149 P) :: (nat_lit 150, k150 P) :: (nat_lit 152, k152 P) :: (nat_lit 153, k153 P) :: (nat_lit 154, k154 P) :: (nat_lit 156, k156 P) :: (nat_lit 157, k157 P) :: (nat_lit 159, k159 P) :: (nat_lit 160, k160 P) :: (nat_lit 161, k161 P) :: (nat_lit 162, k162 P) :: (nat_lit 163, k163 P) :: (nat_lit 164, k164 P) :: (nat_lit 165, k165 P) :: (nat_lit 167, k167 P) :: (nat_lit 168, k168 P) :: (nat_lit 170, k170 P) :: (nat_lit 171, k171 P) :: (nat_lit 172, k172 P) :: (nat_lit 174, k174 P) :: (nat_lit 175, k175 P) :: (nat_lit 177, k177 P) :: (nat_lit 178, k178 P) :: (nat_lit 179, k179 P) :: (nat_lit 181, k181 P) :: (nat_lit 182, k182 P) :: (nat_lit 184, k184 P) :: (nat_lit 185, k185 P) :: (nat_lit 186, k186 P) :: (nat_lit 188, k188 P) :: (nat_lit 189, k189 P) :: (nat_lit 191, k191 P) :: (nat_lit 192, k192 P) :: (nat_lit 193, k193 P) :: (nat_lit 194, k194 P) :: (nat_lit 195, k195 P) :: (nat_lit 197, k197 P) :: (nat_lit 198, k198 P) :: (nat_lit 200, k200 P) :: (nat_lit 201, k201 P) :: (nat_lit 203, k203 P) :: (nat_lit 205, k205 P) :: (nat_lit 206, k206 P) :: (nat_lit 207, k207 P) :: (nat_lit 210, k210 P) :: (nat_lit 212, k212 P) :: (nat_lit 213, k213 P) :: (nat_lit 215, k215 P) :: (nat_lit 216, k216 P) :: (nat_lit 224, k224 P) :: (nat_lit 225, k225 P) :: (nat_lit 227, k227 P) :: (nat_lit 228, k228 P) :: (nat_lit 230, k230 P) :: (nat_lit 231, k231 P) :: (nat_lit 232, k232 P) :: (nat_lit 234, k234 P) :: (nat_lit 235, k235 P) :: (nat_lit 237, k237 P) :: (nat_lit 238, k238 P) :: (nat_lit 239, k239 P) :: (nat_lit 241, k241 P) :: (nat_lit 242, k242 P) :: (nat_lit 244, k244 P) :: (nat_lit 245, k245 P) :: (nat_lit 246, k246 P) :: (nat_lit 248, k248 P) :: (nat_lit 249, k249 P) :: (nat_lit 251, k251 P) :: (nat_lit 252, k252 P) :: (nat_lit 253, k253 P) :: (nat_lit 255, k255 P) :: (nat_lit 256, k256 P) :: (nat_lit 258, k258 P) :: (nat_lit 259, k259 P) :: (nat_lit 260, k260 P) :: (nat_lit 261, k261 P) :: (nat_lit 263, k263 P) :: (nat_lit 264, k264 P) :: (nat_lit 266, k266 P) :: (nat_lit 267, k267 P) :: (nat_lit 268, k268 P) :: (nat_lit 270, k270 P) :: (nat_lit 271, k271 P) :: (nat_lit 273, k273 P) :: (nat_lit 274, k274 P) :: (nat_lit 275, k275 P) :: (nat_lit 277, k277 P) :: (nat_lit 278, k278 P) :: (nat_lit 280, k280 P) :: (nat_lit 281, k281 P) :: (nat_lit 282, k282 P) :: (nat_lit 283, k283 P) :: (nat_lit 285, k285 P) :: (nat_lit 286, k286 P) :: (nat_lit 288, k288 P) :: (nat_lit 289, k289 P) :: (nat_lit 290, k290 P) :: (nat_lit 292, k292 P) :: (nat_lit 293, k293 P) :: (nat_lit 295, k295 P) :: (nat_lit 296, k296 P) :: (nat_lit 297, k297 P) :: (nat_lit 299, k299 P) :: (nat_lit 300, k300 P) :: (nat_lit 302, k302 P) :: (nat_lit 303, k303 P) :: (nat_lit 304, k304 P) :: (nat_lit 306, k306 P) :: (nat_lit 307, k307 P) :: (nat_lit 309, k309 P) :: (nat_lit 310, k310 P) :: (nat_lit 311, k311 P) :: (nat_lit 312, k312 P) :: (nat_lit 313, k313 P) :: (nat_lit 314, k314 P) :: (nat_lit 315, k315 P) :: (nat_lit 318, k318 P) :: (nat_lit 320, k320 P) :: (nat_lit 321, k321 P) :: (nat_lit 323, k323 P) :: (nat_lit 324, k324 P) :: (nat_lit 325, k325 P) :: (nat_lit 328, k328 P) :: (nat_lit 329, k329 P) :: (nat_lit 330, k330 P) :: (nat_lit 332, k332 P) :: (nat_lit 333, k333 P) :: (nat_lit 335, k335 P) :: (nat_lit 336, k336 P) :: (nat_lit 337, k337 P) :: (nat_lit 339, k339 P) :: (nat_lit 340, k340 P) :: (nat_lit 342, k342 P) :: (nat_lit 343, k343 P) :: (nat_lit 344, k344 P) :: (nat_lit 346, k346 P) :: (nat_lit 347, k347 P) :: (nat_lit 349, k349 P) :: (nat_lit 350, k350 P) :: (nat_lit 351, k351 P) :: (nat_lit 354, k354 P) :: (nat_lit 355, k355 P) :: (nat_lit 356, k356 P) :: (nat_lit 358, k358 P) :: (nat_lit 359, k359 P) :: (nat_lit 361, k361 P) :: (nat_lit 362, k362 P) :: (nat_lit 363, k363 P) :: (nat_lit 366, k366 P) :: (nat_lit 367, k367 P) :: []
noncomputable def kAs : List Addr := nat_lit 2 :: nat_lit 3 :: nat_lit 32 :: nat_lit 34 :: nat_lit 35 :: nat_lit 37 :: nat_lit 38 :: nat_lit 42 :: nat_lit 43 :: nat_lit 45 :: nat_lit 49 :: nat_lit 51 :: nat_lit 52 :: nat_lit 54 :: nat_lit 55 :: nat_lit 56 :: nat_lit 58 :: nat_lit 59 :: nat_lit 61 :: nat_lit 62 :: nat_lit 63 :: nat_lit 65 :: nat_lit 66 :: nat_lit 68 :: nat_lit 69 :: nat_lit 70 :: nat_lit 72 :: nat_lit 73 :: nat_lit 75 :: nat_lit 76 :: nat_lit 77 :: nat_lit 78 :: nat_lit 80 :: nat_lit 81 :: nat_lit 83 :: nat_lit 84 :: nat_lit 85 :: nat_lit 86 :: nat_lit 88 :: nat_lit 89 :: nat_lit 91 :: nat_lit 92 :: nat_lit 100 :: nat_lit 102 :: nat_lit 103 :: nat_lit 105 :: nat_lit 106 :: nat_lit 107 :: nat_lit 108 :: nat_lit 110 :: nat_lit 111 :: nat_lit 113 :: nat_lit 114 :: nat_lit 115 :: nat_lit 117 :: nat_lit 118 :: nat_lit 120 :: nat_lit 121 :: nat_lit 122 :: nat_lit 124 :: nat_lit 125 :: nat_lit 127 :: nat_lit 128 :: nat_lit 129 :: nat_lit 130 :: nat_lit 131 :: nat_lit 132 :: nat_lit 133 :: nat_lit 136 :: nat_lit 139 :: nat_lit 144 :: nat_lit 145 :: nat_lit 146 :: nat_lit 147 :: nat_lit 149 :: nat_lit 150 :: nat_lit 152 :: nat_lit 153 :: nat_lit 154 :: nat_lit 156 :: nat_lit 157 :: nat_lit 159 :: nat_lit 160 :: nat_lit 161 :: nat_lit 162 :: nat_lit 163 :: nat_lit 164 :: nat_lit 165 :: nat_lit 167 :: nat_lit 168 :: nat_lit 170 :: nat_lit 171 :: nat_lit 172 :: nat_lit 174 :: nat_lit 175 :: nat_lit 177 :: nat_lit 178 :: nat_lit 179 :: nat_lit 181 :: nat_lit 182 :: nat_lit 184 :: nat_lit 185 :: nat_lit 186 :: nat_lit 188 :: nat_lit 189 :: nat_lit 191 :: nat_lit 192 :: nat_lit 193 :: nat_lit 194 :: nat_lit 195 :: nat_lit 197 :: nat_lit 198 :: nat_lit 200 :: nat_lit 201 :: nat_lit 203 :: nat_lit 205 :: nat_lit 206 :: nat_lit 207 :: nat_lit 210 :: nat_lit 212 :: nat_lit 213 :: nat_lit 215 :: nat_lit 216 :: nat_lit 224 :: nat_lit 225 :: nat_lit 227 :: nat_lit 228 :: nat_lit 230 :: nat_lit 231 :: nat_lit 232 :: nat_lit 234 :: nat_lit 235 :: nat_lit 237 :: nat_lit 238 :: nat_lit 239 :: nat_lit 241 :: nat_lit 242 :: nat_lit 244 :: nat_lit 245 :: nat_lit 246 :: nat_lit 248 :: nat_lit 249 :: nat_lit 251 :: nat_lit 252 :: nat_lit 253 :: nat_lit 255 :: nat_lit 256 :: nat_lit 258 :: nat_lit 259 :: nat_lit 260 :: nat_lit 261 :: nat_lit 263 :: nat_lit 264 :: nat_lit 266 :: nat_lit 267 :: nat_lit 268 :: nat_lit 270 :: nat_lit 271 :: nat_lit 273 :: nat_lit 274 :: nat_lit 275 :: nat_lit 277 :: nat_lit 278 :: nat_lit 280 :: nat_lit 281 :: nat_lit 282 :: nat_lit 283 :: nat_lit 285 :: nat_lit 286 :: nat_lit 288 :: nat_lit 289 :: nat_lit 290 :: nat_lit 292 :: nat_lit 293 :: nat_lit 295 :: nat_lit 296 :: nat_lit 297 :: nat_lit 299 :: nat_lit 300 :: nat_lit 302 :: nat_lit 303 :: nat_lit 304 :: nat_lit 306 :: nat_lit 307 :: nat_lit 309 :: nat_lit 310 :: nat_lit 311 :: nat_lit 312 :: nat_lit 313 :: nat_lit 314 :: nat_lit 315 :: nat_lit 318 :: nat_lit 320 :: nat_lit 321 :: nat_lit 323 :: nat_lit 324 :: nat_lit 325 :: nat_lit 328 :: nat_lit 329 :: nat_lit 330 :: nat_lit 332 :: nat_lit 333 :: nat_lit 335 :: nat_lit 336 :: nat_lit 337 :: nat_lit 339 :: nat_lit 340 :: nat_lit 342 :: nat_lit 343 :: nat_lit 344 :: nat_lit 346 :: nat_lit 347 :: nat_lit 349 :: nat_lit 350 :: nat_lit 351 :: nat_lit 354 :: nat_lit 355 :: nat_lit 356 :: nat_lit 358 :: nat_lit 359 :: nat_lit 361 :: nat_lit 362 :: nat_lit 363 :: nat_lit 366 :: nat_lit 367 :: []
theorem kAs_eq (P : Params) : kAs = (Kx P).map (·.1) := rfl
end
section
open PySem PySem.W PyProof.Rows
set_option maxRecDepth 100000
noncomputable def full (p : Program) (x : Shared × SharedT) := (look1 p x, PySem.W.Fast.tw4187177175401517315 vw ls (importedModules pw.main.body) Xt true x.2.abs, kAs.map x.2.abs.heap.get?)
noncomputable def good (w : World) := (true, openGood vw ls, (Kx w.params).map fun p => some p.2)
set_option maxHeartbeats 4000000 in
theorem lk00 : ∃ f : Builtin, PySem.W.Fast.tw4202317264376624991 = f ∧ ∀ w, (pipe f pwQ (fix false false w)).map (full pwQ) = some (good (fix false false w)) := by
  refine' Exists.intro _ (And.intro ?g ?h)
  case g =>
    delta PySem.W.Fast.tw4202317264376624991
    rw [anyA_eq, sizeA_eq]
  case h =>
    intro w
    kernel_rfl
set_option maxHeartbeats 4000000 in
theorem lk01 : ∃ f : Builtin, PySem.W.Fast.tw4202317264376624991 = f ∧ ∀ w, (pipe f pwQ (fix false true w)).map (full pwQ) = some (good (fix false true w)) := by
  refine' Exists.intro _ (And.intro ?g ?h)
  case g =>
    delta PySem.W.Fast.tw4202317264376624991
    rw [anyA_eq, sizeA_eq]
  case h =>
    intro w
    kernel_rfl
set_option maxHeartbeats 4000000 in
theorem lk10 : ∃ f : Builtin, PySem.W.Fast.tw4202317264376624991 = f ∧ ∀ w, (pipe f pwQ (fix true false w)).map (full pwQ) = some (good (fix true false w)) := by
  refine' Exists.intro _ (And.intro ?g ?h)
  case g =>
    delta PySem.W.Fast.tw4202317264376624991
    rw [anyA_eq, sizeA_eq]
  case h =>
    intro w
    kernel_rfl
set_option maxHeartbeats 4000000 in
theorem lk11 : ∃ f : Builtin, PySem.W.Fast.tw4202317264376624991 = f ∧ ∀ w, (pipe f pwQ (fix true true w)).map (full pwQ) = some (good (fix true true w)) := by
  refine' Exists.intro _ (And.intro ?g ?h)
  case g =>
    delta PySem.W.Fast.tw4202317264376624991
    rw [anyA_eq, sizeA_eq]
  case h =>
    intro w
    kernel_rfl
abbrev Lk (p : Program) (w : World) : Prop := ∃ f : Builtin, PySem.W.Fast.tw4202317264376624991 = f ∧ (pipe f p w).map (full p) = some (good w)
theorem lk (w : World) : Lk pw w := by
  have h : ∀ w, Lk pwQ w :=
    byRow2 "special-get-raises" (P := fun w => Lk pwQ w)
      (byRow2 "comprehension-iter-twice" (P := fun w => Lk pwQ (w.withFollow "special-get-raises" false)) (fun w => let ⟨f, e, h⟩ := lk00; ⟨f, e, h w⟩) (fun w => let ⟨f, e, h⟩ := lk10; ⟨f, e, h w⟩))
      (byRow2 "comprehension-iter-twice" (P := fun w => Lk pwQ (w.withFollow "special-get-raises" true)) (fun w => let ⟨f, e, h⟩ := lk01; ⟨f, e, h w⟩) (fun w => let ⟨f, e, h⟩ := lk11; ⟨f, e, h w⟩))
  rw [pwQ_eq] at h
  exact h w
noncomputable def Yf (s : Shared) : List (Option Obj) := kAs.map s.heap.get?
noncomputable def Ya (w : World) : List (Option Obj) := (Kx w.params).map fun p => some p.2
theorem left : LeftO pw vw ls Xt Yf Ya N := fun w => by
  obtain ⟨f, hf, hl⟩ := lk w
  obtain ⟨⟨s0, s⟩, e, e'⟩ := Option.map_eq_some_iff.mp hl
  obtain ⟨h1, h2, h3⟩ := pipe_of hf e
  unfold full good at e'
  obtain ⟨l1, l2⟩ := Prod.mk.inj e'
  obtain ⟨l2, l3⟩ := Prod.mk.inj l2
  rw [← PySem.W.Fast.te4187177175401517315] at l2
  unfold look1 at l1
  have t : topFrom treeTable pw w N s0 = some s.abs := by
    unfold topFrom
    rw [h2]
    dsimp only
    rw [h3]
    show (match staticsOk (importedModules pw.main.body) s0.heap s.abs.heap && namesBound pw s.abs.heap && gensDone s.abs && laidKept s0.heap s.abs.heap with | true => _ | false => _) = _
    rw [l1]
  unfold openEnds
  rw [h1]
  show (topFrom treeTable pw w N s0).map _ = _
  rw [t]
  exact congrArg some (Prod.ext l2 l3)
end
section
open PySem PySem.W PyProof.Rows
set_option maxRecDepth 100000
set_option maxHeartbeats 4000000 in
theorem saidR : PySem.Challenge.rw_ik0097_01.row.wellSaid = true := by
  unfold OpenRow.wellSaid OpenRow.partSaid looksOpen
  repeat' (with_reducible refine look_both ?_ ?_)
  all_goals kernel_rfl
set_option maxHeartbeats 4000000 in
theorem said : OpenLaw.wellSaid PySem.Challenge.rw_ik0097_01 = true := by
  unfold OpenLaw.wellSaid
  repeat' (with_reducible refine look_both ?_ ?_)
  focus exact saidR
  all_goals kernel_rfl
end
section
open PySem PySem.W PySem.Calls PySem.Spec PyProof.Rows PyProof.V
set_option maxRecDepth 100000
section
variable {prog : Program} {w : World} {A : Around} {E : Value → Shared → Prop} {s : Shared} {env : Env} {h₀ : Heap} {x : Str} {body : List Stmt} {Q : Flow → Shared → Prop}

end
end
section
open PySem PySem.W PySem.Calls PySem.Spec PyProof.Rows
structure Stop (P : Prop) : Prop where
  h : P
theorem stop_of {P : Prop} (h : Stop P) : P := h.h
end
section
open PySem PySem.W PySem.Calls PySem.Spec PyProof.Rows
theorem fr_as {h₀ : Heap} {L : Addr} {h : Heap} {m m' : Str → Option Value} (F : Fr h₀ L h m) (e : ∀ y, m y = m' y) : Fr h₀ L h m' := by
  have q : m = m' := funext e
  exact q ▸ F
theorem lk_nil (y : Str) : List.lookup y ([] : List (Str × Value)) = none := rfl
theorem lk_cons (y k : Str) (v : Value) (l : List (Str × Value)) : List.lookup y ((k, v) :: l) = if y = k then some v else List.lookup y l := by
  rw [List.lookup_cons]
  by_cases h : y = k
  · simp [h]
  · have : (y == k) = false := by simp [h]
    rw [this, if_neg h]
noncomputable def lcp : List Nat → List Nat → Nat
  | a :: x, b :: y => if a = b then lcp x y + 1 else 0
  | _, _ => 0
noncomputable def better (f g : List Nat) (i j : Nat) (b : Nat × Nat × Nat) : Nat × Nat × Nat :=
  if lcp (f.drop i) (g.drop j) > b.2.2 then (i, j, lcp (f.drop i) (g.drop j)) else b
noncomputable def row (f g : List Nat) (i n : Nat) (b : Nat × Nat × Nat) : Nat × Nat × Nat := (List.range n).foldl (fun b j => better f g i j b) b
noncomputable def rows (f g : List Nat) (n : Nat) : Nat × Nat × Nat := (List.range n).foldl (fun b i => row f g i g.length b) (0, 0, 0)
noncomputable def longest (f g : List Nat) : Nat × Nat × Nat := rows f g f.length
theorem row_succ (f g : List Nat) (i n : Nat) (b : Nat × Nat × Nat) : row f g i (n + 1) b = better f g i n (row f g i n b) := by
  unfold row; rw [List.range_succ, List.foldl_append]; rfl
theorem rows_succ (f g : List Nat) (n : Nat) : rows f g (n + 1) = row f g n g.length (rows f g n) := by
  unfold rows; rw [List.range_succ, List.foldl_append]; rfl
noncomputable def tup3 (b : Nat × Nat × Nat) (x y z : Tok) : Obj := { cls := .type "tuple", data := .seq #[.int b.1 x, .int b.2.1 y, .int b.2.2 z] }
end
section
open PySem PySem.W PySem.Calls PySem.Spec PyProof PyProof.Rows PySem.Builtin PySem.Builtin.Str
theorem indices_clamp {n : Nat} {i j : Int} (hi : 0 ≤ i) (hj : 0 ≤ j) : strSliceIndices (some i) (some j) 1 n = strSliceIndices (some (min i n)) (some (min j n)) 1 n := by
  have h0 : ¬ i < 0 := Int.not_lt.mpr hi
  have h1 : ¬ j < 0 := Int.not_lt.mpr hj
  have h2 : (1 : Int) > 0 := by decide
  have hn : (0 : Int) ≤ (n : Int) := Int.natCast_nonneg _
  have h3 : ¬ min i (n : Int) < 0 := Int.not_lt.mpr (Int.le_min.mpr ⟨hi, hn⟩)
  have h4 : ¬ min j (n : Int) < 0 := Int.not_lt.mpr (Int.le_min.mpr ⟨hj, hn⟩)
  have h5 : min (min i (n : Int)) n = min i n := Int.min_eq_left (Int.min_le_right _ _)
  have h6 : min (min j (n : Int)) n = min j n := Int.min_eq_left (Int.min_le_right _ _)
  simp only [strSliceIndices, h0, h1, h2, h3, h4, if_false, if_true, h5, h6]

theorem slice_ij (x : Str) (i j : Nat) (h : i ≤ j) : Txt.slice x (some (i : Int)) (some (j : Int)) = ⟨((x.cps.toList.drop i).take (j - i)).toArray⟩ := by
  have e : Txt.slice x (some (i : Int)) (some (j : Int)) = Txt.slice x (some (min (i : Int) x.length)) (some (min (j : Int) x.length)) := by
    unfold Txt.slice
    rw [indices_clamp (by omega) (by omega)]
  have hl : x.length = x.cps.toList.length := by simp [Str.length]
  rw [e]
  rw [hl, ← Lean.Omega.Int.ofNat_min, ← Lean.Omega.Int.ofNat_min]
  have q := beq_iff_eq.mp (slice_closes (x := x) (i := ((min i x.cps.toList.length : Nat) : Int)) (j := ((min j x.cps.toList.length : Nat) : Int)) ⟨Int.natCast_nonneg _, Int.ofNat_le.mpr (Nat.le_min.mpr ⟨Nat.le_trans (Nat.min_le_left _ _) h, Nat.min_le_right _ _⟩), hl ▸ Int.ofNat_le.mpr (Nat.min_le_right _ _)⟩)
  rw [q]
  rw [Int.toNat_natCast, Int.toNat_sub]
  congr 2
  by_cases hi : i ≤ x.cps.toList.length
  · rw [Nat.min_eq_left hi]
    by_cases hj : j ≤ x.cps.toList.length
    · rw [Nat.min_eq_left hj]
    · rw [Nat.min_eq_right (show x.cps.toList.length ≤ j by omega), List.take_of_length_le (by rw [List.length_drop]; omega), List.take_of_length_le (by rw [List.length_drop]; omega)]
  · rw [Nat.min_eq_right (by omega : x.cps.toList.length ≤ i), List.drop_of_length_le (Nat.le_refl _), List.drop_of_length_le (by omega)]; simp

theorem empty_str : Str.ofString "" = (⟨#[]⟩ : Str) := rfl
theorem str_ext {x y : Str} (h : x.cps.toList = y.cps.toList) : x = y := by
  cases x; cases y; simp only [Str.mk.injEq]; exact Array.toList_inj.mp h

theorem slice_one (x : Str) (i : Nat) : (Txt.slice x (some (i : Int)) (some ((i : Int) + 1))).cps.toList = (x.cps.toList[i]?).toList := by
  have := slice_ij x i (i + 1) (by omega)
  rw [show ((i + 1 : Nat) : Int) = (i : Int) + 1 by omega] at this
  rw [this]
  simp only [Nat.add_sub_cancel_left]
  by_cases hi : i < x.cps.toList.length
  · rw [List.drop_eq_getElem_cons hi, List.getElem?_eq_getElem hi]; simp
  · rw [List.drop_of_length_le (by omega), List.getElem?_eq_none (by omega)]; simp

theorem lcp_at : ∀ (k : Nat) (x y : List Nat), k ≤ lcp x y → (k < lcp x y ↔ ∃ c, x[k]? = some c ∧ y[k]? = some c)
  | 0, [], y, _ => by simp [lcp]
  | 0, a :: x, [], _ => by simp [lcp]
  | 0, a :: x, b :: y, _ => by
    simp only [lcp]
    split
    · rename_i h; subst h; simp
    · rename_i h; simp; exact fun e => h e.symm
  | k + 1, [], y, h => by simp [lcp] at h
  | k + 1, a :: x, [], h => by simp [lcp] at h
  | k + 1, a :: x, b :: y, h => by
    simp only [lcp] at h ⊢
    split at h
    · rename_i e
      rw [if_pos e]
      have := lcp_at k x y (by omega)
      simp only [List.getElem?_cons_succ]
      rw [← this]; omega
    · omega

theorem lcp_le : ∀ (x y : List Nat), lcp x y ≤ x.length ∧ lcp x y ≤ y.length
  | [], y => by simp [lcp]
  | a :: x, [] => by simp [lcp]
  | a :: x, b :: y => by
    have := lcp_le x y
    simp only [lcp, List.length_cons]
    split <;> omega

theorem more_of {f g : Str} {i j k : Nat} (hk : k ≤ lcp (f.cps.toList.drop i) (g.cps.toList.drop j))
    (h1 : (Txt.slice f (some ((i : Int) + k)) (some ((i : Int) + k + 1)) == Txt.slice g (some ((j : Int) + k)) (some ((j : Int) + k + 1))) = true)
    (h2 : (Txt.slice g (some ((j : Int) + k)) (some ((j : Int) + k + 1)) != Str.ofString "") = true) : k < lcp (f.cps.toList.drop i) (g.cps.toList.drop j) := by
  rw [lcp_at _ _ _ hk]
  have a1 := slice_one f (i + k); have a2 := slice_one g (j + k)
  rw [show ((i + k : Nat) : Int) = (i : Int) + k by omega] at a1
  rw [show ((j + k : Nat) : Int) = (j : Int) + k by omega] at a2
  have e := beq_iff_eq.mp h1
  rw [e, a2] at a1
  simp only [List.getElem?_drop]
  cases hg : g.cps.toList[j + k]? with
  | none =>
    rw [hg] at a2
    exact absurd (str_ext (y := Str.ofString "") (by rw [a2]; rfl)) (by simpa using h2)
  | some c =>
    rw [hg] at a1
    cases hf : f.cps.toList[i + k]? with
    | none => rw [hf] at a1; simp at a1
    | some d => rw [hf] at a1; simp at a1; exact ⟨d, rfl, by rw [a1]⟩
theorem done_of {f g : Str} {i j k : Nat} (hk : k ≤ lcp (f.cps.toList.drop i) (g.cps.toList.drop j))
    (h1 : ¬ ((Txt.slice f (some ((i : Int) + k)) (some ((i : Int) + k + 1)) == Txt.slice g (some ((j : Int) + k)) (some ((j : Int) + k + 1))) = true ∧
      (Txt.slice g (some ((j : Int) + k)) (some ((j : Int) + k + 1)) != Str.ofString "") = true)) : k = lcp (f.cps.toList.drop i) (g.cps.toList.drop j) := by
  refine Nat.le_antisymm hk (Nat.not_lt.mp fun hlt => h1 ?_)
  obtain ⟨c, e1, e2⟩ := (lcp_at _ _ _ hk).mp hlt
  have a1 := slice_one f (i + k); have a2 := slice_one g (j + k)
  rw [show ((i + k : Nat) : Int) = (i : Int) + k by omega] at a1
  rw [show ((j + k : Nat) : Int) = (j : Int) + k by omega] at a2
  rw [List.getElem?_drop] at e1 e2
  rw [e1] at a1; rw [e2] at a2
  refine ⟨beq_iff_eq.mpr (str_ext (by rw [a1, a2])), ?_⟩
  simp only [bne_iff_ne, ne_eq]
  intro e; rw [e, empty_str] at a2; simp at a2
section
variable {prog : Program} {w : World} {A : Around} {E : Value → Shared → Prop} {Q : Flow → Shared → Prop} {s : Shared} {env : Env} {h₀ : Heap} {L : Addr}
end
end
section
open PySem PySem.W PySem.Calls PySem.Spec PyProof.Rows
theorem hide {G : Prop} (H : ∀ X : Prop, (G → X) → X) : G := H G id
section
variable {M : Model} {A : Around} {E : Value → Shared → Prop} {s : Shared} {h₀ : Heap} {L a : Addr} {m : Str → Option Value} {cn : Str} {cs : Scope} {ccd : Value} {cl : List (Str × Addr)} {x : Str} {v : Value} {news : List (Addr × Obj)}
end
end
section
open PySem PySem.W PySem.Calls PySem.Spec PyProof PyProof.Rows
noncomputable def lsW : List Str := ["_twin_re_1", "_special_chars_map", "b2a_base64", "b64encode", "_tuplegetter", "Match", "SequenceMatcher", "_B64", "_sre"]
structure Site (w : World) (A : Around) (h₀ : Heap) (L : Addr) (h : Heap) (m : Str → Option Value) : Prop where
  hh : A.handled = none
  fr : Fr h₀ L h m
  at' : ∃ (env : Env) (outer : List Env) (A₀ : Around) (base : Heap) (mean : ExcName → Option Value) (mg mb : Str → Option Value), A.frames = some (env :: outer) ∧ env.frame = some L ∧ env.scope.kind = .function ∧ Below A₀ base outer h₀ ∧ (Kx w.params).In h₀ ∧ Top vw lsW mean mg mb h₀
noncomputable def PurK (w : World) (f : Addr) (vs : List Value) (kw : List (Str × Value)) (D U : Nat) (P : Heap → Prop) (R : Heap → Value → Heap → Prop) : Prop :=
  ∀ (A : Around) (h₀ : Heap) (L : Addr) (m : Str → Option Value) (s : Shared) (Q E : Value → Shared → Prop),
    Site w A h₀ L s.heap m → A.depth + D < recursionLimit → A.units + U < cLine → P s.heap →
    (∀ r h' tk', s.heap.StaysIn h' → R s.heap r h' → Q r { s with heap := h', toks := tk' }) →
    wpAny (model pw w) A (call (.ref f) vs kw) Q E s
abbrev Pur (w : World) (f : Addr) (vs : List Value) (D U : Nat) (P : Heap → Prop) (R : Heap → Value → Heap → Prop) : Prop := PurK w f vs [] D U P R
structure PEnd (R : Heap → Value → Heap → Prop) (s : Shared) (v : Value) (s' : Shared) : Prop where
  h : ∃ h' tk L' m', s' = { s with heap := h', toks := tk } ∧ Fr s.heap L' h' m' ∧ R s.heap v h'
theorem PEnd.intro {R : Heap → Value → Heap → Prop} {s : Shared} {v : Value} {h' : Heap} {tk : Nat} {L' : Addr} {m' : Str → Option Value} (F : Fr s.heap L' h' m') (hr : R s.heap v h') : PEnd R s v { s with heap := h', toks := tk } := ⟨h', tk, L', m', rfl, F, hr⟩
theorem PEnd.leave {h₀ : Heap} {L : Addr} {m : Str → Option Value} {s : Shared} {Rp : Heap → Value → Heap → Prop} {R : Result → Shared → Prop} {v : Value} {s' : Shared}
    (hret : ∀ r h' tk', s.heap.StaysIn h' → Rp s.heap r h' → R (.ok (.ret r)) { s with heap := h', toks := tk' })
    (h : PEnd Rp s v s') : LeaveK h₀ L m s.heap R v s' := by
  obtain ⟨h', tk, L', m', rfl, hF, hr⟩ := h
  exact ⟨L', m', [], hF, News.nil, fun _ _ => hret v h' tk hF.keep hr⟩
section
variable {prog : Program} {w : World} {A₀ A : Around} {E : Value → Shared → Prop} {s : Shared} {base h₀ : Heap} {outer : List Env} {L : Addr} {m : Str → Option Value} {env : Env}
theorem code_pur {K : Frag} {p : Program} {loose : List Str} {mean : ExcName → Option Value} {mg mb : Str → Option Value} {R : Result → Shared → Prop} {Rp : Heap → Value → Heap → Prop} {name qual : Str} {params : Arguments} {body : List Stmt} {scope : Scope} {dV kV doc pm cdv ct oc : Value} {an od : Option Addr} {osl : Array (Option Value)} {f : Addr} {args : Args} {binds : List (Str × Value)}
    (B : Below A₀ base outer h₀) (F : Fr h₀ L s.heap m) (X₀ : K.In h₀) (T : Top p loose mean mg mb h₀) (hA : A.frames = some (env :: outer)) (hf : env.frame = some L) (hke : env.scope.kind = .function)
    (hret : ∀ r h' tk', s.heap.StaysIn h' → Rp s.heap r h' → R (.ok (.ret r)) { s with heap := h', toks := tk' })
    (ho : K.lookup f = some ⟨oc, od, .func (fnOf name qual params body scope dV kV doc pm an cdv ct), osl⟩) (hcd : codeIn K cdv qual = true) (hroom : A.depth < recursionLimit)
    (hbind : BindsTo s (fnOf name qual params body scope dV kV doc pm an cdv ct) args binds) (hloc : ∀ y ∈ binds, scope.names.lookup y.1 = some .local)
    (h : ∀ L' h₁, Fr s.heap L' h₁ (fun y => binds.reverse.lookup y) → News s.heap L' h₁ [] → Below A base (env :: outer) s.heap → K.In s.heap → Top p loose mean mg mb s.heap →
      wpAny (model prog w) (A.deeper (envOf qual scope L' f cdv)) (execs body (envOf qual scope L' f cdv))
        (fun fl s' => PEnd Rp s (match fl with | .ret v => v | _ => .none) s')
        (fun e s' => wpAny (model prog w) (A.deeper (envOf qual scope L' f cdv)) (leaving (envOf qual scope L' f cdv) e) (fun _ s'' => R (.error e) s'') (fun e' s'' => R (.error e') s'') s')
        { s with heap := h₁, toks := s.toks + binds.length })
    (hco : scope.isCoroutine = false) (hgen : scope.isGenerator = false) (hk : scope.kind = .function)
    (hcell : ∀ x ∈ scope.names, x.2 ≠ .cell) : codeAny (model prog w) A (.call (.ref f) args) R s := by
  obtain ⟨FG, BG, st, lv⟩ := groundX (R := R) B F (News.nil (h₀ := h₀) (L := L) (h := s.heap)) hA hf hke
  refine codeAny_call_def (fd := fnX name qual params body scope [] dV kV doc pm an cdv ct) (body := body) (binds := binds) hroom ((X₀.keeps F.keep) _ _ ho) rfl (T.nolimit.keeps F.keep) (codeRec_of (X₀.keeps F.keep) hcd) rfl hbind hcell hloc (fun h₁ hns hk₁ => ?_) hco hgen hk
  exact wpAny_mono (h s.heap.objs.size h₁ ⟨hns, fun b o e => hk₁ b o e, Nat.le_refl _⟩ News.nil BG (X₀.keeps F.keep) (T.keeps F.keep)) (fun fl s' hl => lv _ _ (hl.leave hret)) fun _ _ y => y
theorem code_purC {K : Frag} {p : Program} {loose : List Str} {mean : ExcName → Option Value} {mg mb : Str → Option Value} {R : Result → Shared → Prop} {Rp : Heap → Value → Heap → Prop} {name qual : Str} {params : Arguments} {body : List Stmt} {scope : Scope} {dV kV doc pm cdv ct oc : Value} {an od : Option Addr} {osl : Array (Option Value)} {f : Addr} {args : Args} {binds : List (Str × Value)}
    (B : Below A₀ base outer h₀) (F : Fr h₀ L s.heap m) (X₀ : K.In h₀) (T : Top p loose mean mg mb h₀) (hA : A.frames = some (env :: outer)) (hf : env.frame = some L) (hke : env.scope.kind = .function)
    (hret : ∀ r h' tk', s.heap.StaysIn h' → Rp s.heap r h' → R (.ok (.ret r)) { s with heap := h', toks := tk' })
    (ho : K.lookup f = some ⟨oc, od, .func (fnOf name qual params body scope dV kV doc pm an cdv ct), osl⟩) (hcd : codeIn K cdv qual = true) (hroom : A.depth < recursionLimit)
    (hbind : BindsTo s (fnOf name qual params body scope dV kV doc pm an cdv ct) args binds) (hkind : (binds.all fun y => scope.names.lookup y.1 == some .local || scope.names.lookup y.1 == some .cell) = true)
    (hnd : ((cellsFrom 0 scope.names []).map (·.1)).Nodup)
    (h : ∀ L' h₁ tk cells, Fr s.heap L' h₁ (bindL (envOfC qual scope L' f cdv).kindOf binds fun _ => none) → News s.heap L' h₁ cells →
      CellsAre (bindC (envOfC qual scope L' f cdv).kindOf binds fun _ => none) (cellsFrom (L' + 1) scope.names []) cells → Below A base (env :: outer) s.heap → K.In s.heap → Top p loose mean mg mb s.heap →
      wpAny (model prog w) (A.deeper (envOfC qual scope L' f cdv)) (execs body (envOfC qual scope L' f cdv))
        (fun fl s' => PEnd Rp s (match fl with | .ret v => v | _ => .none) s')
        (fun e s' => wpAny (model prog w) (A.deeper (envOfC qual scope L' f cdv)) (leaving (envOfC qual scope L' f cdv) e) (fun _ s'' => R (.error e) s'') (fun e' s'' => R (.error e') s'') s')
        { s with heap := h₁, toks := tk })
    (hco : scope.isCoroutine = false) (hgen : scope.isGenerator = false) (hk : scope.kind = .function) : codeAny (model prog w) A (.call (.ref f) args) R s := by
  obtain ⟨FG, BG, st, lv⟩ := groundX (R := R) B F (News.nil (h₀ := h₀) (L := L) (h := s.heap)) hA hf hke
  refine codeAny_call_function hroom ((X₀.keeps F.keep) _ _ ho) rfl hco hgen rfl (codeRec_of (X₀.keeps F.keep) hcd) (hbind _ _ _ _ ?_)
  refine wpAny_newFunctionEnv_cells hk (kindsX hkind _) fun env' he s' x => ?_
  subst he
  have hk₁ := x.toInCall.keep
  refine ⟨(T.nolimit.keeps F.keep).keeps hk₁, codeAny_func ?_⟩
  obtain ⟨h₁, tk, rfl, _⟩ := x.done
  obtain ⟨cells, NC, Y⟩ := Cl.news (h₀ := s.heap) (Nat.le_refl _) fun n c hm => ⟨x.cell n c (lookup_of_mem_nodup (cellsFrom_names scope.names 0 (s.heap.objs.size + 1) [] [] rfl ▸ hnd) hm), x.above n c hm⟩
  exact wpAny_mono (h s.heap.objs.size h₁ tk cells ⟨x.toInCall.ns, hk₁, Nat.le_refl _⟩ NC Y BG (X₀.keeps F.keep) (T.keeps F.keep)) (fun fl s' hl => lv _ _ (hl.leave hret)) fun _ _ y => y
end
abbrev topE (dp un : Nat) (gd : Option (List Code)) (env : Env) (outer : List Env) : Around := { handled := none, depth := dp, frames := some (env :: outer), guards := gd, units := un }
section
variable {w : World} {D U : Nat} {P : Heap → Prop} {Rp : Heap → Value → Heap → Prop} {name qual : Str} {params : Arguments} {body : List Stmt} {scope : Scope} {dV kV doc pm cdv ct oc : Value} {an od : Option Addr} {osl : Array (Option Value)} {f : Addr} {vs : List Value} {kw : List (Str × Value)} {binds : List (Str × Value)}
theorem pur_intro (hD : 1 ≤ D)
    (ho : (Kx w.params).lookup f = some ⟨oc, od, .func (fnOf name qual params body scope dV kV doc pm an cdv ct), osl⟩) (hcd : codeIn (Kx w.params) cdv qual = true)
    (hbind : ∀ s : Shared, (Kx w.params).In s.heap → BindsTo s (fnOf name qual params body scope dV kV doc pm an cdv ct) ⟨vs, kw⟩ binds) (hloc : ∀ y ∈ binds, scope.names.lookup y.1 = some .local)
    (h : ∀ (dp un : Nat) (gd : Option (List Code)) (env : Env) (outer : List Env) (base : Heap) (mean : ExcName → Option Value) (mg mb : Str → Option Value) (s : Shared) (E : Value → Shared → Prop) (L' : Addr) (h₁ : Heap) (tk : Nat), dp + D < recursionLimit → un + U < cLine → P s.heap →
      Fr s.heap L' h₁ (fun y => binds.reverse.lookup y) → News s.heap L' h₁ [] → Below (topE dp un gd env outer) base (env :: outer) s.heap → (Kx w.params).In s.heap → Top vw lsW mean mg mb s.heap →
      wpAny (model pw w) ((topE dp un gd env outer).deeper (envOf qual scope L' f cdv)) (execs body (envOf qual scope L' f cdv))
        (fun fl s' => PEnd Rp s (match fl with | .ret v => v | _ => .none) s')
        (fun e s' => wpAny (model pw w) ((topE dp un gd env outer).deeper (envOf qual scope L' f cdv)) (leaving (envOf qual scope L' f cdv) e) (fun _ s'' => E e s'') (fun e' s'' => E e' s'') s')
        { s with heap := h₁, toks := tk })
    (hco : scope.isCoroutine = false) (hgen : scope.isGenerator = false) (hk : scope.kind = .function)
    (hcell : ∀ x ∈ scope.names, x.2 ≠ .cell) : PurK w f vs kw D U P Rp := by
  intro A h₀ L m s Q E S hd hu hP hret
  obtain ⟨hh, F, env, outer, A₀, base, mean, mg, mb, hA, hf', hke, B, X, T⟩ := S
  obtain ⟨hd', dp, fr, gd, un⟩ := A
  dsimp only at hh hA hd hu
  subst hh
  subst hA
  refine wpAny_call (code_pur (R := fun r s' => match r with | .ok (.ret v) => Q v s' | .ok _ => False | .error e => E e s') (Rp := Rp) B F X T rfl hf' hke (fun r h' tk' a b => hret r h' tk' a b) ho hcd (show dp < recursionLimit by lia) (hbind s (X.keeps F.keep)) hloc (fun L' h₁ F' N' B' X' T' => ?_) hco hgen hk hcell)
  exact h dp un gd env outer base mean mg mb s E L' h₁ _ hd hu hP F' N' B' X' T'
theorem pur_introC (hD : 1 ≤ D)
    (ho : (Kx w.params).lookup f = some ⟨oc, od, .func (fnOf name qual params body scope dV kV doc pm an cdv ct), osl⟩) (hcd : codeIn (Kx w.params) cdv qual = true)
    (hbind : ∀ s : Shared, (Kx w.params).In s.heap → BindsTo s (fnOf name qual params body scope dV kV doc pm an cdv ct) ⟨vs, kw⟩ binds) (hkind : (binds.all fun y => scope.names.lookup y.1 == some .local || scope.names.lookup y.1 == some .cell) = true)
    (hnd : ((cellsFrom 0 scope.names []).map (·.1)).Nodup)
    (h : ∀ (dp un : Nat) (gd : Option (List Code)) (env : Env) (outer : List Env) (base : Heap) (mean : ExcName → Option Value) (mg mb : Str → Option Value) (s : Shared) (E : Value → Shared → Prop) (L' : Addr) (h₁ : Heap) (tk : Nat) (cells : List (Addr × Obj)), dp + D < recursionLimit → un + U < cLine → P s.heap →
      Fr s.heap L' h₁ (bindL (envOfC qual scope L' f cdv).kindOf binds fun _ => none) → News s.heap L' h₁ cells → CellsAre (bindC (envOfC qual scope L' f cdv).kindOf binds fun _ => none) (cellsFrom (L' + 1) scope.names []) cells →
      Below (topE dp un gd env outer) base (env :: outer) s.heap → (Kx w.params).In s.heap → Top vw lsW mean mg mb s.heap →
      wpAny (model pw w) ((topE dp un gd env outer).deeper (envOfC qual scope L' f cdv)) (execs body (envOfC qual scope L' f cdv))
        (fun fl s' => PEnd Rp s (match fl with | .ret v => v | _ => .none) s')
        (fun e s' => wpAny (model pw w) ((topE dp un gd env outer).deeper (envOfC qual scope L' f cdv)) (leaving (envOfC qual scope L' f cdv) e) (fun _ s'' => E e s'') (fun e' s'' => E e' s'') s')
        { s with heap := h₁, toks := tk })
    (hco : scope.isCoroutine = false) (hgen : scope.isGenerator = false) (hk : scope.kind = .function) : PurK w f vs kw D U P Rp := by
  intro A h₀ L m s Q E S hd hu hP hret
  obtain ⟨hh, F, env, outer, A₀, base, mean, mg, mb, hA, hf', hke, B, X, T⟩ := S
  obtain ⟨hd', dp, fr, gd, un⟩ := A
  dsimp only at hh hA hd hu
  subst hh
  subst hA
  refine wpAny_call (code_purC (R := fun r s' => match r with | .ok (.ret v) => Q v s' | .ok _ => False | .error e => E e s') (Rp := Rp) B F X T rfl hf' hke (fun r h' tk' a b => hret r h' tk' a b) ho hcd (show dp < recursionLimit by lia) (hbind s (X.keeps F.keep)) hkind hnd (fun L' h₁ tk cells F' N' Y' B' X' T' => ?_) hco hgen hk)
  exact h dp un gd env outer base mean mg mb s E L' h₁ tk cells hd hu hP F' N' Y' B' X' T'
end

theorem pur_use {w : World} {f : Addr} {vs : List Value} {kw : List (Str × Value)} {D U : Nat} {P : Heap → Prop} {R : Heap → Value → Heap → Prop} {A : Around} {h₀ : Heap} {L : Addr} {m : Str → Option Value} {s : Shared} {Q E : Value → Shared → Prop}
    (C : PurK w f vs kw D U P R) (S : Site w A h₀ L s.heap m) (hd : A.depth + D < recursionLimit) (hu : A.units + U < cLine) (hP : P s.heap)
    (hret : ∀ r h' tk', s.heap.StaysIn h' → Fr h₀ L h' m → R s.heap r h' → Q r { s with heap := h', toks := tk' }) :
    wpAny (model pw w) A (call (.ref f) vs kw) Q E s :=
  C A h₀ L m s Q E S hd hu hP fun r h' tk' hs hr => hret r h' tk' hs ⟨S.fr.ns.keeps hs, fun b o e => hs _ _ (S.fr.keep b o e), S.fr.above⟩ hr
theorem news_stay {h₀ h h' : Heap} {L : Addr} {news : List (Addr × Obj)} (N : News h₀ L h news) (hs : h.StaysIn h') : News h₀ L h' news := fun p hp => ⟨hs _ _ (N p hp).1, (N p hp).2⟩
theorem news_add {h₀ h h' : Heap} {L : Addr} {m : Str → Option Value} {news : List (Addr × Obj)} (F : Fr h₀ L h m) (N : News h₀ L h' news) {a : Addr} {o : Obj} (hn : h.get? a = none) (ho : h'.get? a = some o) : News h₀ L h' ((a, o) :: news) := by
  intro p hp
  rcases List.mem_cons.mp hp with rfl | hp
  · refine ⟨ho, fun e => ?_, ?_⟩
    · obtain ⟨oL, _, _, hL, _⟩ := F.ns
      have e' : a = L := e
      rw [e'] at hn; rw [hn] at hL; cases hL
    · cases q : h₀.get? a with
      | none => rfl
      | some o' => rw [F.keep _ _ q] at hn; cases hn
  · exact N p hp
theorem news_off {h₀ h : Heap} {L : Addr} {news : List (Addr × Obj)} (N : News h₀ L h news) {a : Addr} (hn : h.get? a = none) : ∀ p ∈ news, p.1 ≠ a := fun p hp e => by
  have := (N p hp).1; rw [e, hn] at this; cases this
noncomputable def NewIn (h h' : Heap) (led : List (Addr × Obj)) : Prop := ∀ p ∈ led, h.get? p.1 = none ∧ h'.get? p.1 = some p.2
theorem newIn_of {h₀ h' : Heap} {L : Addr} {news : List (Addr × Obj)} (N : News h₀ L h' news) {led : List (Addr × Obj)} (hs : ∀ p ∈ led, p ∈ news) : NewIn h₀ h' led := fun p hp => ⟨(N p (hs p hp)).2.2, (N p (hs p hp)).1⟩
theorem news_sub {h₀ h' : Heap} {L : Addr} {news led : List (Addr × Obj)} (N : News h₀ L h' news) (hs : ∀ p ∈ led, p ∈ news) : News h₀ L h' led := fun p hp => N p (hs p hp)
end
section
open PySem PySem.W PySem.Calls PySem.Spec PyProof.Rows PyProof.V
set_option maxRecDepth 100000
section
variable {prog : Program} {w : World} {A : Around} {E : Value → Shared → Prop} {s : Shared} {env : Env} {h₀ : Heap} {x : Str} {body : List Stmt} {Q : Flow → Shared → Prop}
theorem stepU_of {I : Addr} {L : Addr} {wr : List Addr} {own : List (Addr × Obj)} {J : (Str → Option Value) → List (Addr × Obj) → Prop} {s₁ s₂ : Shared} (hw : ∀ b ∈ wr, b ∈ own.map (·.1)) (p : InvEndG h₀ L J own s₁ s₂) : LoopStepU h₀ L wr own J s₁ .next s₂ := by
  obtain ⟨h', tk, m', news', nx, e, F', N', hn, ho, ha, hm⟩ := p
  refine ⟨rfl, h', tk, m', nx, e, F', fun p hp => N' p ((List.mem_append.mp hp).elim (ho p) (hn p)), fun p hp hq => ?_, hm⟩
  obtain ⟨q, hq', e'⟩ := List.mem_map.mp (hw _ hq)
  exact ha q hq' p.1 (List.mem_map.mpr ⟨p, hp, rfl⟩) e'
theorem live_iter {I l : Addr} {vs : List Value} {i : Nat} {h : Heap} (st : h.IsListIter I l i ∧ h.IsList l vs.toArray) : (∃ o, h.get? I = some o) ∧ ∃ o, h.get? l = some o :=
  ⟨let ⟨o, e, _⟩ := st.1; ⟨o, e⟩, let ⟨o, e, _⟩ := st.2; ⟨o, e⟩⟩
end
end
section
open PySem PySem.W PySem.Calls PySem.Spec PyProof.Rows PyProof.Rows.LCg PyProof.Rows.LCt
set_option maxRecDepth 100000
theorem off1_mem {D : Addr} : ∀ {l : List (Addr × Obj)}, Off1 D l → ∀ p ∈ l, p.1 ≠ D
  | [], _, _, h => nomatch h
  | _ :: _, x, p, h => by
    rcases List.mem_cons.mp h with rfl | h
    · exact x.1
    · exact off1_mem x.2 p h
section
variable {prog : Program} {w : World} {A : Around} {E : Value → Shared → Prop} {s : Shared} {h₀ : Heap} {L : Addr} {m : Str → Option Value} {env : Env}
end
theorem filter_range_t {p : Nat → Bool} {j : Nat} (h : p j = true) : (List.range (j + 1)).filter p = (List.range j).filter p ++ [j] := by
  rw [List.range_succ, List.filter_append, List.filter_cons_of_pos h, List.filter_nil]
theorem filter_range_f {p : Nat → Bool} {j : Nat} (h : p j = false) : (List.range (j + 1)).filter p = (List.range j).filter p := by
  rw [List.range_succ, List.filter_append, List.filter_cons_of_neg (by simp [h]), List.filter_nil, List.append_nil]
theorem filter_take_t {p : Nat → Bool} {l : List Nat} {j e : Nat} (hj : l[j]? = some e) (h : p e = true) : (l.take (j + 1)).filter p = (l.take j).filter p ++ [e] := by
  rw [List.take_add_one, hj, List.filter_append]
  simp [h]
theorem filter_take_f {p : Nat → Bool} {l : List Nat} {j e : Nat} (hj : l[j]? = some e) (h : p e = false) : (l.take (j + 1)).filter p = (l.take j).filter p := by
  rw [List.take_add_one, hj, List.filter_append]
  simp [h]
end
section
open PySem PySem.W PySem.Calls PySem.Spec PyProof.Rows PyProof.V
set_option maxRecDepth 100000
section
variable {prog : Program} {w : World} {A : Around} {E : Value → Shared → Prop} {s : Shared} {env : Env} {h₀ : Heap} {x : Str} {body : List Stmt} {Q : Flow → Shared → Prop}
end
end
section
open PySem PySem.W PySem.Calls PySem.Spec PyProof PyProof.Rows
abbrev less (h : Heap) (own : List (Addr × Obj)) : Heap := hideAll h (own.map (·.1))
noncomputable def OwnK (w : World) (f : Addr) (vs : List Value) (own : List (Addr × Obj)) (D U : Nat) (P : Heap → Prop) (R : Heap → Value → Heap → Prop) : Prop :=
  ∀ (A : Around) (h₀ : Heap) (L : Addr) (m : Str → Option Value) (s : Shared) (Q E : Value → Shared → Prop),
    Site w A h₀ L s.heap m → News h₀ L s.heap own → A.depth + D < recursionLimit → A.units + U < cLine → P (less s.heap own) →
    (∀ r h' tk', (less s.heap own).StaysIn h' → R (less s.heap own) r h' → Q r { s with heap := h', toks := tk' }) →
    wpAny (model pw w) A (call (.ref f) vs) Q E s
theorem less_stays {h₀ h h' : Heap} {L : Addr} {m : Str → Option Value} {own : List (Addr × Obj)} (F : Fr h₀ L h m) (N : News h₀ L h own) (hs : (less h own).StaysIn h') : Fr h₀ L h' m := by
  have nm : ∀ b o, h₀.get? b = some o → b ∉ own.map (·.1) := fun b o e q => by
    obtain ⟨p, hp, rfl⟩ := List.mem_map.mp q
    rw [(N p hp).2.2] at e; cases e
  have nL : L ∉ own.map (·.1) := fun q => by
    obtain ⟨p, hp, e⟩ := List.mem_map.mp q
    exact (N p hp).2.1 e
  obtain ⟨oL, es, ep, hL, hLd, hLk, hLf⟩ := F.ns
  exact ⟨⟨oL, es, ep, hs _ _ (hideAll_get _ hL nL), hLd, hLk, hLf⟩, fun b o e => hs _ _ (hideAll_get _ (F.keep b o e) (nm b o e)), F.above⟩
theorem own_use {w : World} {f : Addr} {vs : List Value} {own : List (Addr × Obj)} {D U : Nat} {P : Heap → Prop} {R : Heap → Value → Heap → Prop} {A : Around} {h₀ : Heap} {L : Addr} {m : Str → Option Value} {s : Shared} {Q E : Value → Shared → Prop}
    (C : OwnK w f vs own D U P R) (S : Site w A h₀ L s.heap m) (N : News h₀ L s.heap own) (hd : A.depth + D < recursionLimit) (hu : A.units + U < cLine) (hP : P (less s.heap own))
    (hret : ∀ r h' tk', (less s.heap own).StaysIn h' → Fr h₀ L h' m → R (less s.heap own) r h' → Q r { s with heap := h', toks := tk' }) :
    wpAny (model pw w) A (call (.ref f) vs) Q E s :=
  C A h₀ L m s Q E S N hd hu hP fun r h' tk' hs hr => hret r h' tk' hs (less_stays S.fr N hs) hr
section
variable {prog : Program} {w : World} {A₀ A : Around} {E : Value → Shared → Prop} {s : Shared} {base h₀ : Heap} {outer : List Env} {L : Addr} {m : Str → Option Value} {env : Env}
theorem code_own {K : Frag} {p : Program} {loose : List Str} {mean : ExcName → Option Value} {mg mb : Str → Option Value} {R : Result → Shared → Prop} {Rp : Heap → Value → Heap → Prop} {name qual : Str} {params : Arguments} {body : List Stmt} {scope : Scope} {dV kV doc pm cdv ct oc : Value} {an od : Option Addr} {osl : Array (Option Value)} {f : Addr} {args : Args} {binds : List (Str × Value)} {own : List (Addr × Obj)}
    (B : Below A₀ base outer h₀) (F : Fr h₀ L s.heap m) (N : News h₀ L s.heap own) (X₀ : K.In h₀) (T : Top p loose mean mg mb h₀) (hA : A.frames = some (env :: outer)) (hf : env.frame = some L) (hke : env.scope.kind = .function)
    (hret : ∀ r h' tk', (less s.heap own).StaysIn h' → Rp (less s.heap own) r h' → R (.ok (.ret r)) { s with heap := h', toks := tk' })
    (ho : K.lookup f = some ⟨oc, od, .func (fnOf name qual params body scope dV kV doc pm an cdv ct), osl⟩) (hcd : codeIn K cdv qual = true) (hroom : A.depth < recursionLimit)
    (hbind : BindsTo s (fnOf name qual params body scope dV kV doc pm an cdv ct) args binds) (hloc : ∀ y ∈ binds, scope.names.lookup y.1 = some .local)
    (h : ∀ L' h₁, Fr (less s.heap own) L' h₁ (fun y => binds.reverse.lookup y) → News (less s.heap own) L' h₁ own → Below A base (env :: outer) (less s.heap own) → K.In (less s.heap own) → Top p loose mean mg mb (less s.heap own) →
      wpAny (model prog w) (A.deeper (envOf qual scope L' f cdv)) (execs body (envOf qual scope L' f cdv))
        (fun fl s' => PEnd Rp { s with heap := less s.heap own } (match fl with | .ret v => v | _ => .none) s')
        (fun e s' => wpAny (model prog w) (A.deeper (envOf qual scope L' f cdv)) (leaving (envOf qual scope L' f cdv) e) (fun _ s'' => R (.error e) s'') (fun e' s'' => R (.error e') s'') s')
        { s with heap := h₁, toks := s.toks + binds.length })
    (hco : scope.isCoroutine = false) (hgen : scope.isGenerator = false) (hk : scope.kind = .function)
    (hcell : ∀ x ∈ scope.names, x.2 ≠ .cell) : codeAny (model prog w) A (.call (.ref f) args) R s := by
  obtain ⟨FG, BG, st, lv⟩ := groundX (R := R) B F N hA hf hke
  refine codeAny_call_def (fd := fnX name qual params body scope [] dV kV doc pm an cdv ct) (body := body) (binds := binds) hroom ((X₀.keeps F.keep) _ _ ho) rfl (T.nolimit.keeps F.keep) (codeRec_of (X₀.keeps F.keep) hcd) rfl hbind hcell hloc (fun h₁ hns hk₁ => ?_) hco hgen hk
  exact wpAny_mono (h s.heap.objs.size h₁ ⟨hns, fun b o e => hk₁ b o (of_hideAll _ e), Nat.le_of_eq (hideAll_size _ _)⟩
    (fun p hp => ⟨hk₁ _ _ (N p hp).1, Nat.ne_of_lt (Heap.lt_size (N p hp).1), hideAll_none _ (List.mem_map_of_mem hp)⟩) BG (X₀.keeps st) (T.keeps st)) (fun fl s' hl => lv _ _ (PEnd.leave (s := { s with heap := less s.heap own }) (fun r h' tk' a b => hret r h' tk' a b) hl)) fun _ _ y => y
end
section
variable {w : World} {D U : Nat} {P : Heap → Prop} {Rp : Heap → Value → Heap → Prop} {name qual : Str} {params : Arguments} {body : List Stmt} {scope : Scope} {dV kV doc pm cdv ct oc : Value} {an od : Option Addr} {osl : Array (Option Value)} {f : Addr} {vs : List Value} {kw : List (Str × Value)} {binds : List (Str × Value)} {own : List (Addr × Obj)}
theorem own_intro (hD : 1 ≤ D)
    (ho : (Kx w.params).lookup f = some ⟨oc, od, .func (fnOf name qual params body scope dV kV doc pm an cdv ct), osl⟩) (hcd : codeIn (Kx w.params) cdv qual = true)
    (hbind : ∀ s : Shared, (Kx w.params).In s.heap → BindsTo s (fnOf name qual params body scope dV kV doc pm an cdv ct) ⟨vs, []⟩ binds) (hloc : ∀ y ∈ binds, scope.names.lookup y.1 = some .local)
    (h : ∀ (dp un : Nat) (gd : Option (List Code)) (env : Env) (outer : List Env) (base : Heap) (mean : ExcName → Option Value) (mg mb : Str → Option Value) (s : Shared) (E : Value → Shared → Prop) (L' : Addr) (h₁ : Heap) (tk : Nat), dp + D < recursionLimit → un + U < cLine → P s.heap →
      Fr s.heap L' h₁ (fun y => binds.reverse.lookup y) → News s.heap L' h₁ own → Below (topE dp un gd env outer) base (env :: outer) s.heap → (Kx w.params).In s.heap → Top vw lsW mean mg mb s.heap →
      wpAny (model pw w) ((topE dp un gd env outer).deeper (envOf qual scope L' f cdv)) (execs body (envOf qual scope L' f cdv))
        (fun fl s' => PEnd Rp s (match fl with | .ret v => v | _ => .none) s')
        (fun e s' => wpAny (model pw w) ((topE dp un gd env outer).deeper (envOf qual scope L' f cdv)) (leaving (envOf qual scope L' f cdv) e) (fun _ s'' => E e s'') (fun e' s'' => E e' s'') s')
        { s with heap := h₁, toks := tk })
    (hco : scope.isCoroutine = false) (hgen : scope.isGenerator = false) (hk : scope.kind = .function)
    (hcell : ∀ x ∈ scope.names, x.2 ≠ .cell) : OwnK w f vs own D U P Rp := by
  intro A h₀ L m s Q E S N hd hu hP hret
  obtain ⟨hh, F, env, outer, A₀, base, mean, mg, mb, hA, hf', hke, B, X, T⟩ := S
  obtain ⟨hd', dp, fr, gd, un⟩ := A
  dsimp only at hh hA hd hu
  subst hh
  subst hA
  refine wpAny_call (code_own (R := fun r s' => match r with | .ok (.ret v) => Q v s' | .ok _ => False | .error e => E e s') (Rp := Rp) B F N X T rfl hf' hke (fun r h' tk' a b => hret r h' tk' a b) ho hcd (show dp < recursionLimit by lia) (hbind s (X.keeps F.keep)) hloc (fun L' h₁ F' N' B' X' T' => ?_) hco hgen hk hcell)
  exact h dp un gd env outer base mean mg mb { s with heap := less s.heap own } E L' h₁ _ hd hu hP F' N' B' X' T'
theorem cls_intro {C fI : Addr} {bindsX : Addr → List (Str × Value)} (hD : 2 ≤ D) (hm : makesIn (Kx w.params) C = true) (hi : findIn (Kx w.params) (.ref C) "__init__" = some (some (.ref fI))) (hfn : isFn (Kx w.params) (.ref fI) = true)
    (hmono : ∀ (h g h' : Heap) (v : Value), h.StaysIn g → Rp g v h' → Rp h v h')
    (ho : (Kx w.params).lookup fI = some ⟨oc, od, .func (fnOf name qual params body scope dV kV doc pm an cdv ct), osl⟩) (hcd : codeIn (Kx w.params) cdv qual = true)
    (hbind : ∀ (x : Addr) (s : Shared), (Kx w.params).In s.heap → BindsTo s (fnOf name qual params body scope dV kV doc pm an cdv ct) ⟨.ref x :: vs, []⟩ (bindsX x)) (hloc : ∀ x, ∀ y ∈ bindsX x, scope.names.lookup y.1 = some .local)
    (h : ∀ (dp un : Nat) (gd : Option (List Code)) (env : Env) (outer : List Env) (base : Heap) (mean : ExcName → Option Value) (mg mb : Str → Option Value) (s : Shared) (E : Value → Shared → Prop) (L' : Addr) (h₁ : Heap) (tk : Nat) (x dx : Addr), dp + D < recursionLimit → un + U < cLine → dx < x →
      Fr s.heap L' h₁ (fun y => (bindsX x).reverse.lookup y) → News s.heap L' h₁ [(x, instObj C dx), (dx, dictOf [] 0)] → Below ((topE dp un gd env outer).under (.builtin "type.__call__" ⟨.ref C :: vs, []⟩)) base (env :: outer) s.heap → (Kx w.params).In s.heap → Top vw lsW mean mg mb s.heap →
      wpAny (model pw w) (((topE dp un gd env outer).under (.builtin "type.__call__" ⟨.ref C :: vs, []⟩)).deeper (envOf qual scope L' fI cdv)) (execs body (envOf qual scope L' fI cdv))
        (fun fl s' => PEnd (fun h v h' => v = .none ∧ Rp h (.ref x) h') s (match fl with | .ret v => v | _ => .none) s')
        (fun e s' => wpAny (model pw w) (((topE dp un gd env outer).under (.builtin "type.__call__" ⟨.ref C :: vs, []⟩)).deeper (envOf qual scope L' fI cdv)) (leaving (envOf qual scope L' fI cdv) e) (fun _ s'' => E e s'') (fun e' s'' => E e' s'') s')
        { s with heap := h₁, toks := tk })
    (hco : scope.isCoroutine = false) (hgen : scope.isGenerator = false) (hk : scope.kind = .function)
    (hcell : ∀ x ∈ scope.names, x.2 ≠ .cell) : Pur w C vs D U (fun _ => True) Rp := by
  intro A h₀ L m s Q E S hd hu _ hret
  obtain ⟨hh, F, env, outer, A₀, base, mean, mg, mb, hA, hf', hke, B, X, T⟩ := S
  obtain ⟨hd', dp, fr, gd, un⟩ := A
  dsimp only at hh hA hd hu
  subst hh
  subst hA
  obtain ⟨hp, gn, dr, tk, os⟩ := s
  have Xs := X.keeps F.keep
  refine wpAny_call (make_core (R := fun r s' => match r with | .ok (.ret v) => Q v s' | .ok _ => False | .error e => E e s') (makes_of Xs hm) (looks_findIn Xs hi) (fun self => bind_fn Xs self (beq_iff_eq.mp hfn)) (.inl rfl) ?_)
  have N0 : News h₀ L hp [] := News.nil
  have N1 := (N0.push F emptyDict).push (F.push _) (instObj C hp.objs.size)
  rw [Heap.size_push] at N1
  have F1 := (F.push emptyDict).push (instObj C hp.objs.size)
  have hst : hp.StaysIn (less ((hp.push emptyDict).push (instObj C hp.objs.size)) [(hp.objs.size + 1, instObj C hp.objs.size), (hp.objs.size, emptyDict)]) := by
    intro b o e
    have hb : b < hp.objs.size := Heap.lt_size e
    refine hideAll_get _ (Heap.get?_push_of_some _ (Heap.get?_push_of_some _ e)) ?_
    show b ∉ [hp.objs.size + 1, hp.objs.size]
    intro hmem
    rcases List.mem_cons.mp hmem with q | q
    · exact absurd q (Nat.ne_of_lt (Nat.lt_succ_of_lt hb))
    · exact absurd (List.mem_singleton.mp q) (Nat.ne_of_lt hb)
  refine code_own (s := ⟨(hp.push emptyDict).push (instObj C hp.objs.size), gn, dr, tk, os⟩) (R := InitBack (hp.objs.size + 1) fun r s' => match r with | .ok (.ret v) => Q v s' | .ok _ => False | .error e => E e s') (Rp := fun h v h' => v = .none ∧ Rp h (.ref (hp.objs.size + 1)) h') B F1 N1 X T rfl hf' hke
    (fun r h' tk' a b => ⟨b.1, hret _ h' tk' (fun y o e => a y o (hst y o e)) (hmono _ _ _ _ hst b.2)⟩) ho hcd (show _ < recursionLimit from ?_) (hbind _ _ (X.keeps F1.keep)) (hloc _) (fun L' h₁ F' N' B' X' T' => ?_) hco hgen hk hcell
  · have : ((topE dp un gd env outer).under (.builtin "type.__call__" ⟨.ref C :: vs, []⟩)).depth ≤ dp + 1 := Nat.le_refl _
    exact Nat.lt_of_le_of_lt this (by lia)
  exact h dp un gd env outer base mean mg mb { heap := less ((hp.push emptyDict).push (instObj C hp.objs.size)) [(hp.objs.size + 1, instObj C hp.objs.size), (hp.objs.size, emptyDict)], gens := gn, drawn := dr, toks := tk, os := os } E L' h₁ _ (hp.objs.size + 1) hp.objs.size hd hu (Nat.lt_succ_self _) F' N' B' X' T'
end
end
section
open PySem PySem.W PySem.Calls PyProof PyProof.Rows
noncomputable def big : Nat := 1048576
inductive SV where
  | num (i : Int)
  | txt (x : Str)
  | val (x : Value)
def SV.Is : SV → Value → Prop
  | .num i, v => ∃ u, v = .int i u
  | .txt x, v => x.length ≤ big ∧ ∃ u, v = .str x u
  | .val x, v => v = x
abbrev SF := List (Str × SV)
abbrev SL := List (Addr × (Obj → Prop))
noncomputable def lkS (y : Str) : SF → Option SV
  | [] => none
  | (k, a) :: l => if y = k then some a else lkS y l
abbrev XM := Option (Str → Option Value)
structure FrR (xm : XM) (f : SF) (m : Str → Option Value) : Prop where
  nm : ∀ y a, lkS y f = some a → ∃ v, m y = some v ∧ a.Is v
  ex : ∀ m', xm = some m' → m = m'
def Conc : SL → List (Addr × Obj) → Prop
  | [], [] => True
  | p :: n, q :: l => p.1 = q.1 ∧ p.2 q.2 ∧ Conc n l
  | _, _ => False
inductive FrI (h₀ : Heap) (L : Addr) (xm : XM) (f : SF) (h : Heap) : Prop
  | mk (m : Str → Option Value) (F : Fr h₀ L h m) (R : FrR xm f m)
inductive NwI (h₀ : Heap) (L : Addr) (kp : List (Addr × Obj)) (n : SL) (h : Heap) : Prop
  | mk (nw : List (Addr × Obj)) (N : News h₀ L h (nw ++ kp)) (K : Conc n nw)
inductive AtI (h₀ : Heap) (L : Addr) (h : Heap) (a : Addr) (P : Obj → Prop) : Prop
  | mk (o : Obj) (hg : h.get? a = some o) (hP : P o) (hL : a ≠ L) (h0 : h₀.get? a = none)
inductive MemI (l : List (Addr × Obj)) (a : Addr) (P : Obj → Prop) : Prop
  | mk (o : Obj) (hm : (a, o) ∈ l) (hP : P o)
structure StS (h₀ : Heap) (L : Addr) (xm : XM) (kp : List (Addr × Obj)) (f : SF) (n : SL) (h : Heap) : Prop where
  fr : FrI h₀ L xm f h
  nw : NwI h₀ L kp n h
  nd : (n.map (·.1)).Nodup
  off : ∀ p ∈ kp, p.1 ∉ n.map (·.1)
theorem Conc.addrs : ∀ {n : SL} {l : List (Addr × Obj)}, Conc n l → n.map (·.1) = l.map (·.1)
  | [], [], _ => rfl
  | p :: n, q :: l, h => by rw [List.map_cons, List.map_cons, h.1, Conc.addrs h.2.2]
  | [], _ :: _, h => h.elim
  | _ :: _, [], h => h.elim
theorem Conc.mem : ∀ {n : SL} {l : List (Addr × Obj)} {p : Addr × (Obj → Prop)}, Conc n l → p ∈ n → MemI l p.1 p.2
  | p :: n, q :: l, r, h, hr => by
    rcases List.mem_cons.mp hr with rfl | hr
    · exact ⟨q.2, by rw [h.1]; exact .head _, h.2.1⟩
    · obtain ⟨o, h1, h2⟩ := Conc.mem h.2.2 hr
      exact ⟨o, .tail _ h1, h2⟩
  | [], _, _, _, hr => nomatch hr
  | _ :: _, [], _, h, _ => h.elim
theorem StS.at' {h₀ : Heap} {L : Addr} {xm : XM} {kp : List (Addr × Obj)} {f : SF} {n : SL} {h : Heap} (S : StS h₀ L xm kp f n h) {a : Addr} {P : Obj → Prop} (hm : (a, P) ∈ n) : AtI h₀ L h a P := by
  obtain ⟨nw, N, C⟩ := S.nw
  obtain ⟨o, h1, h2⟩ := C.mem hm
  have z := N _ (List.mem_append_left _ h1)
  exact .mk o z.1 h2 z.2.1 z.2.2
theorem StS.mk' {h₀ : Heap} {L : Addr} {xm : XM} {kp : List (Addr × Obj)} {f : SF} {n : SL} {h : Heap} {m : Str → Option Value} {nw : List (Addr × Obj)} (F : Fr h₀ L h m) (R : FrR xm f m) (N : News h₀ L h (nw ++ kp)) (C : Conc n nw) (D : (n.map (·.1)).Nodup) (O : ∀ p ∈ kp, p.1 ∉ n.map (·.1)) : StS h₀ L xm kp f n h :=
  ⟨⟨m, F, R⟩, ⟨nw, N, C⟩, D, O⟩
theorem Conc.one (n : SL) {h₀ h : Heap} {L : Addr} : (∀ p ∈ n, ∃ o, p.2 o ∧ h.get? p.1 = some o ∧ p.1 ≠ L ∧ h₀.get? p.1 = none) → ∃ nw, News h₀ L h nw ∧ Conc n nw := by
  induction n with
  | nil => intro _; exact ⟨[], News.nil, trivial⟩
  | cons p n ih =>
    intro H
    obtain ⟨nw, N, C⟩ := ih fun q hq => H q (.tail _ hq)
    obtain ⟨o, h1, h2⟩ := H p (.head _)
    refine ⟨(p.1, o) :: nw, fun q hq => ?_, rfl, h1, C⟩
    rcases List.mem_cons.mp hq with rfl | hq
    · exact h2
    · exact N q hq
theorem StS.frame {h₀ : Heap} {L : Addr} {xm : XM} {kp : List (Addr × Obj)} {f f' : SF} {n : SL} {h : Heap} (S : StS h₀ L xm kp f n h) (e : (f'.map (·.1)).map (fun k => lkS k f') = (f'.map (·.1)).map fun k => lkS k f) : StS h₀ L xm kp f' n h := by
  obtain ⟨m, F, R⟩ := S.fr
  refine ⟨⟨m, F, fun y a h => R.nm y a ?_, R.ex⟩, S.nw, S.nd, S.off⟩
  have hy : y ∈ f'.map (·.1) := by
    clear e R S F
    induction f' with
    | nil => cases h
    | cons p f' ih =>
      obtain ⟨k, b⟩ := p
      unfold lkS at h
      by_cases q : y = k
      · rw [q]; exact .head _
      · rw [if_neg q] at h; exact .tail _ (ih h)
  rw [← List.map_inj_left.mp e y hy]
  exact h
theorem StS.sub {h₀ : Heap} {L : Addr} {xm : XM} {kp : List (Addr × Obj)} {f : SF} {n n' : SL} {h : Heap} (S : StS h₀ L xm kp f n h) (hs : ∀ p ∈ n', ∃ P, (p.1, P) ∈ n ∧ ∀ o, P o → p.2 o) (hd : (n'.map (·.1)).Nodup) : StS h₀ L xm kp f n' h := by
  obtain ⟨nw, N, C⟩ := S.nw
  obtain ⟨nw', N', C'⟩ := Conc.one (h₀ := h₀) (h := h) (L := L) n' fun p hp => by
    obtain ⟨P, hm, hw⟩ := hs p hp
    obtain ⟨o, h1, h2, h3, h4⟩ := S.at' hm
    exact ⟨o, hw o h2, h1, h3, h4⟩
  refine ⟨S.fr, ⟨nw', fun p hp => ?_, C'⟩, hd, fun p hp hq => ?_⟩
  · rcases List.mem_append.mp hp with hp | hp
    · exact N' p hp
    · exact N p (List.mem_append_right _ hp)
  · obtain ⟨q, hq, e⟩ := List.mem_map.mp hq
    obtain ⟨P, hm, _⟩ := hs q hq
    exact S.off p hp (List.mem_map.mpr ⟨_, hm, e⟩)

theorem FrR.set {f : SF} {m : Str → Option Value} (R : FrR none f m) {x : Str} {a : SV} {v : Value} (ha : a.Is v) : FrR none ((x, a) :: f) (fun y => if y = x then some v else m y) := ⟨fun y b h => by
  unfold lkS at h
  by_cases q : y = x
  · rw [if_pos q] at h
    cases h
    exact ⟨v, if_pos q, ha⟩
  · rw [if_neg q] at h
    obtain ⟨v', h1, h2⟩ := R.nm y b h
    exact ⟨v', (if_neg q).trans h1, h2⟩, fun _ e => nomatch e⟩
set_option genInjectivity false in
structure CxU (w : World) (cs : Scope) (md : Bool) where
  A : Around
  E : Value → Shared → Prop
  s : Shared
  lo : Addr
  fl : Addr
  xf : Str → Option Value
  ql : Str
  fu : Option Addr
  ccd : Value
  cl : List (Str × Addr)
  hh : A.handled = none
  hk : cs.kind = .function
  hP : md = true → PassesOwn (model pw w) A { scope := cs, locals := lo, globals := mainGlobals, cells := cl, qual := ql, func := fu, code := ccd, frame := some (@Bool.rec (fun _ => Addr) fl lo md), builtins := builtinsNs } E
  site : ∃ (env : Env) (outer : List Env) (A₀ : Around) (base : Heap) (mean : ExcName → Option Value) (mg mb : Str → Option Value), A.frames = some (env :: outer) ∧ env.frame = some (@Bool.rec (fun _ => Addr) fl lo md) ∧ env.scope.kind = .function ∧ Below A₀ base outer s.heap ∧ (Kx w.params).In s.heap ∧ Top vw lsW mean mg mb s.heap
abbrev Cx (w : World) (cs : Scope) := CxU w cs true
noncomputable abbrev CxU.L {w : World} {cs : Scope} {md : Bool} (C : CxU w cs md) : Addr := @Bool.rec (fun _ => Addr) C.fl C.lo md
noncomputable abbrev CxU.xm {w : World} {cs : Scope} {md : Bool} (C : CxU w cs md) : XM := @Bool.rec (fun _ => XM) (some C.xf) none md
noncomputable abbrev CxU.env {w : World} {cs : Scope} {md : Bool} (C : CxU w cs md) : Env := { scope := cs, locals := C.lo, globals := mainGlobals, cells := C.cl, qual := C.ql, func := C.fu, code := C.ccd, frame := some C.L, builtins := builtinsNs }
theorem CxU.hE {w : World} {cs : Scope} (C : CxU w cs true) : PassesOwn (model pw w) C.A C.env C.E := C.hP rfl
noncomputable abbrev CxU.at {w : World} {cs : Scope} {md : Bool} (C : CxU w cs md) (h : Heap) (t : Nat) : Shared := { C.s with heap := h, toks := t }
noncomputable abbrev CxU.St {w : World} {cs : Scope} {md : Bool} (C : CxU w cs md) (kp : List (Addr × Obj)) (f : SF) (n : SL) (h : Heap) : Prop := StS C.s.heap C.L C.xm kp f n h
noncomputable def isLoc (cs : Scope) (x : Str) : Bool := cs.names.lookup x == some .local && !(x == ("__debug__" : Str))
def EvP (w : World) (A : Around) (env : Env) (E : Value → Shared → Prop) (s : Shared) (S : Heap → Prop) (e : Expr) (a : SV) : Prop :=
  ∀ (Q : Value → Shared → Prop) (h : Heap) (t : Nat), S h → (∀ v h' t', a.Is v → S h' → Q v { s with heap := h', toks := t' }) → wpAny (model pw w) A (eval e env) Q E { s with heap := h, toks := t }
def TstP (w : World) (A : Around) (env : Env) (E : Value → Shared → Prop) (s : Shared) (S : Heap → Prop) (e : Expr) (p : Prop) : Prop :=
  ∀ (Q : Bool → Shared → Prop) (h : Heap) (t : Nat), S h → (∀ (b : Bool) h' t', (b = true ↔ p) → S h' → Q b { s with heap := h', toks := t' }) → wpAny (model pw w) A (isTrue e env (eval e env)) Q E { s with heap := h, toks := t }
section
variable {w : World} {cs : Scope} {md : Bool} (C : CxU w cs md) (kp : List (Addr × Obj)) (f : SF) (n : SL)
def EvX (e : Expr) (R : SV → SL → Prop) : Prop :=
  ∀ (Q : Value → Shared → Prop) (h : Heap) (t : Nat), C.St kp f n h →
    (∀ v a n' h' t', R a n' → a.Is v → C.St kp f n' h' → Q v (C.at h' t')) → wpAny (model pw w) C.A (eval e C.env) Q C.E (C.at h t)
abbrev Ev (e : Expr) (a : SV) : Prop := EvP w C.A C.env C.E C.s (C.St kp f n) e a
abbrev Tst (e : Expr) (p : Prop) : Prop := TstP w C.A C.env C.E C.s (C.St kp f n) e p
structure G (Q : Flow → Shared → Prop) (ss : List Stmt) : Prop where
  run : ∀ (h : Heap) (t : Nat), C.St kp f n h → wpAny (model pw w) C.A (execs ss C.env) Q C.E (C.at h t)
end
section
variable {w : World} {cs : Scope} {md : Bool} {C : CxU w cs md} {kp : List (Addr × Obj)} {f : SF} {n : SL} {e : Expr} {a : SV}
theorem Ev.x {R : SV → SL → Prop} (d : Ev C kp f n e a) (k : R a n) : EvX C kp f n e R := fun Q h t S q => d Q h t S fun v h' t' ha S' => q v a n h' t' k ha S'
end
end
section
open PySem PySem.W PySem.Calls PyProof PyProof.Rows
noncomputable def AllP : List Prop → Prop
  | [] => True
  | p :: l => p ∧ AllP l
abbrev OR := Option (SV × List Prop)
noncomputable def oNum (r : OR) (k : Int → List Prop → OR) : OR := match r with | some (.num a, c) => k a c | _ => none
noncomputable def oTxt (r : OR) (k : Str → List Prop → OR) : OR := match r with | some (.txt a, c) => k a c | _ => none
noncomputable def oTwo (r : OR) (k : Int → List Prop → OR) (k' : Str → List Prop → OR) : OR := match r with | some (.num a, c) => k a c | some (.txt a, c) => k' a c | _ => none
noncomputable def isStar : Expr → Bool
  | .Starred _ _ => true
  | _ => false
noncomputable def isSlice : Expr → Bool
  | .Slice _ _ _ _ => true
  | _ => false
noncomputable def isCel (cs : Scope) (x : Str) : Bool := (cs.names.lookup x == some .cell || cs.names.lookup x == some .free) && !(x == ("__debug__" : Str)) && !(x == ("__classdict__" : Str))
noncomputable def isGlo (cs : Scope) (x : Str) : Bool := cs.names.lookup x == some .globalImplicit
noncomputable def binV (op : Operator) (l : OR) (r : List Prop → OR) : OR := match op with
  | .Add => oTwo l (fun a c1 => oNum (r c1) fun b c2 => some (.num (a + b), c2)) (fun a c1 => oTxt (r c1) fun b c2 => some (.txt (a ++ b), (a.length + b.length ≤ big) :: c2))
  | .Sub => oNum l fun a c1 => oNum (r c1) fun b c2 => some (.num (a - b), c2)
  | .Mult => oNum l fun a c1 => oNum (r c1) fun b c2 => some (.num (a * b), (IntMulOk a b) :: c2)
  | .FloorDiv => oNum l fun a c1 => oNum (r c1) fun b c2 => some (.num (a.fdiv b), (b ≠ 0 ∧ Builtin.divisionGoesByPylong a b = false) :: c2)
  | .Mod => oNum l fun a c1 => oNum (r c1) fun b c2 => some (.num (a.fmod b), (b ≠ 0) :: c2)
  | .Pow => oNum l fun a c1 => oNum (r c1) fun b c2 => some (.num (a ^ b.toNat), (0 ≤ b ∧ b ≤ 1000000 ∧ a.natAbs < 2 ^ 64) :: c2)
  | .BitAnd => oNum l fun a c1 => oNum (r c1) fun b c2 => some (.num (Builtin.bitAnd a b), c2)
  | .BitOr => oNum l fun a c1 => oNum (r c1) fun b c2 => some (.num (Builtin.bitOr a b), c2)
  | .LShift => oNum l fun a c1 => oNum (r c1) fun b c2 => some (.num (a * 2 ^ b.toNat), (0 ≤ b ∧ (Builtin.Int.intBits a : Int) + b ≤ 2 ^ 27) :: c2)
  | .RShift => oNum l fun a c1 => oNum (r c1) fun b c2 => some (.num (a.fdiv (2 ^ b.toNat)), (0 ≤ b) :: c2)
  | _ => none
noncomputable def constV (k : Const) (c : List Prop) : OR := match k with
  | .int i => some (.num i, c)
  | .str x => some (.txt x, (x.length ≤ big) :: c)
  | .none => some (.val .none, c)
  | _ => none
noncomputable def gate (b : Bool) (r : OR) : OR := match b with | true => r | false => none
noncomputable def nameV (a : Option SV) (c : List Prop) : OR := match a with | some a => some (a, c) | none => none
noncomputable def sliceV (lo hi st : Option Expr) (v : OR) (r : Expr → List Prop → OR) : OR := match st with
  | some _ => none
  | none => match lo with
    | some lo => match hi with
      | some hi => oTxt v fun x c1 => oNum (r lo c1) fun a c2 => oNum (r hi c2) fun b c3 => some (.txt (Txt.slice x (some a) (some b)), c3)
      | none => oTxt v fun x c1 => oNum (r lo c1) fun a c2 => some (.txt (Txt.slice x (some a) none), c2)
    | none => match hi with
      | some hi => oTxt v fun x c1 => oNum (r hi c1) fun b c3 => some (.txt (Txt.slice x none (some b)), c3)
      | none => none
noncomputable def subV (sl : Expr) (v : OR) (r : Expr → List Prop → OR) : OR := match sl with
  | .Slice lo hi st _ => sliceV lo hi st v r
  | i => gate (!isSlice i) (oTxt v fun x c1 => oNum (r i c1) fun a c2 => some (.txt (Txt.item x a), (-(x.length : Int) ≤ a ∧ a < x.length) :: c2))
noncomputable def lenV (cs : Scope) (fx : Expr) (args : List Expr) (kw : List Keyword) (r : Expr → OR) : OR := match fx with
  | .Name y _ => match args with
    | e :: es => match es with
      | [] => match kw with
        | [] => gate (y == ("len" : Str) && isGlo cs "len" && !isStar e) (oTxt (r e) fun x c1 => some (.num x.length, c1))
        | _ => none
      | _ => none
    | _ => none
  | _ => none
noncomputable def negV (op : UnaryOp) (r : OR) : OR := match op with
  | .USub => oNum r fun a c => some (.num (-a), c)
  | _ => none
noncomputable def evC (cc : Bool) (cs : Scope) (f : SF) : Nat → Expr → List Prop → OR
  | 0, _, _ => none
  | k + 1, e, c => match e with
    | .Constant v _ _ => constV v c
    | .Name x _ => gate (isLoc cs x || (cc && isCel cs x)) (nameV (lkS x f) c)
    | .BinOp l op r _ => binV op (evC cc cs f k l c) (evC cc cs f k r)
    | .Subscript v sl _ => subV sl (evC cc cs f k v c) (evC cc cs f k)
    | .Call fx args kw _ => lenV cs fx args kw fun e => evC cc cs f k e c
    | .UnaryOp op e _ => negV op (evC cc cs f k e c)
    | _ => none
noncomputable def evE (cs : Scope) (f : SF) : Nat → Expr → List Prop → OR := evC false cs f
theorem big_line {x : Str} (h : x.length ≤ big) : x.length ≤ sizeLine := by rw [sizeLine_eq]; unfold big at h; omega
inductive SlI (S : Heap → Prop) (h : Heap) : Prop
  | mk (h₀ : Heap) (L : Addr) (m : Str → Option Value) (news : List (Addr × Obj)) (F : Fr h₀ L h m) (N : News h₀ L h news) (close : ∀ h', Fr h₀ L h' m → News h₀ L h' news → S h')
section
variable {w : World} {A : Around} {env : Env} {E : Value → Shared → Prop} {s : Shared} {S : Heap → Prop} {pos : Pos} {l r : Expr} {a b : Int} {x y : Str}
theorem ev_int {i : Int} {k : Nat} : EvP w A env E s S (.Constant (.int i) k pos) (.num i) := fun _ _ _ S q => wpAny_Constant_int (q _ _ _ ⟨_, rfl⟩ S)
theorem ev_str {k : Nat} (h : x.length ≤ big) : EvP w A env E s S (.Constant (.str x) k pos) (.txt x) := fun _ _ _ S q => Calls.Constant_str (q _ _ _ ⟨h, _, rfl⟩ S)
theorem ev_none {k : Nat} : EvP w A env E s S (.Constant .none k pos) (.val .none) := fun _ _ _ S q => wpAny_Constant_none (q _ _ _ rfl S)
theorem ev_add (h1 : EvP w A env E s S l (.num a)) (h2 : EvP w A env E s S r (.num b)) : EvP w A env E s S (.BinOp l .Add r pos) (.num (a + b)) := fun _ _ _ S q =>
  wpAny_BinOp (h1 _ _ _ S fun _ _ _ ⟨_, e1⟩ S1 => h2 _ _ _ S1 fun _ _ _ ⟨_, e2⟩ S2 => by subst e1 e2; exact add_int (q _ _ _ ⟨_, rfl⟩ S2))
theorem ev_neg (h1 : EvP w A env E s S l (.num a)) : EvP w A env E s S (.UnaryOp .USub l pos) (.num (-a)) := fun _ _ _ S q =>
  UnaryOp_ (h1 _ _ _ S fun _ _ _ ⟨_, e1⟩ S1 => by subst e1; exact neg_int (q _ _ _ ⟨_, rfl⟩ S1))
theorem ev_sub (h1 : EvP w A env E s S l (.num a)) (h2 : EvP w A env E s S r (.num b)) : EvP w A env E s S (.BinOp l .Sub r pos) (.num (a - b)) := fun _ _ _ S q =>
  wpAny_BinOp (h1 _ _ _ S fun _ _ _ ⟨_, e1⟩ S1 => h2 _ _ _ S1 fun _ _ _ ⟨_, e2⟩ S2 => by subst e1 e2; exact sub_int (q _ _ _ ⟨_, rfl⟩ S2))
theorem ev_mul (h1 : EvP w A env E s S l (.num a)) (h2 : EvP w A env E s S r (.num b)) (h : IntMulOk a b) : EvP w A env E s S (.BinOp l .Mult r pos) (.num (a * b)) := fun _ _ _ S q =>
  wpAny_BinOp (h1 _ _ _ S fun _ _ _ ⟨_, e1⟩ S1 => h2 _ _ _ S1 fun _ _ _ ⟨_, e2⟩ S2 => by subst e1 e2; exact mul_int (q _ _ _ ⟨_, rfl⟩ S2) h)
theorem ev_fdiv (h1 : EvP w A env E s S l (.num a)) (h2 : EvP w A env E s S r (.num b)) (h : b ≠ 0 ∧ Builtin.divisionGoesByPylong a b = false) : EvP w A env E s S (.BinOp l .FloorDiv r pos) (.num (a.fdiv b)) := fun _ _ _ S q =>
  wpAny_BinOp (h1 _ _ _ S fun _ _ _ ⟨_, e1⟩ S1 => h2 _ _ _ S1 fun _ _ _ ⟨_, e2⟩ S2 => by subst e1 e2; exact floordiv_int h.1 (q _ _ _ ⟨_, rfl⟩ S2) (.inl h.2))
theorem ev_fmod (h1 : EvP w A env E s S l (.num a)) (h2 : EvP w A env E s S r (.num b)) (h : b ≠ 0) : EvP w A env E s S (.BinOp l .Mod r pos) (.num (a.fmod b)) := fun _ _ _ S q =>
  wpAny_BinOp (h1 _ _ _ S fun _ _ _ ⟨_, e1⟩ S1 => h2 _ _ _ S1 fun _ _ _ ⟨_, e2⟩ S2 => by subst e1 e2; exact mod_int' h (q _ _ _ ⟨_, rfl⟩ S2))
theorem ev_pow (h1 : EvP w A env E s S l (.num a)) (h2 : EvP w A env E s S r (.num b)) (h : 0 ≤ b ∧ b ≤ 1000000 ∧ a.natAbs < 2 ^ 64) : EvP w A env E s S (.BinOp l .Pow r pos) (.num (a ^ b.toNat)) := fun _ _ _ S q =>
  wpAny_BinOp (h1 _ _ _ S fun _ _ _ ⟨_, e1⟩ S1 => h2 _ _ _ S1 fun _ _ _ ⟨_, e2⟩ S2 => by subst e1 e2; exact pow_int_small h.1 h.2.1 h.2.2 (q _ _ _ ⟨_, rfl⟩ S2))
theorem ev_and (h1 : EvP w A env E s S l (.num a)) (h2 : EvP w A env E s S r (.num b)) : EvP w A env E s S (.BinOp l .BitAnd r pos) (.num (Builtin.bitAnd a b)) := fun _ _ _ S q =>
  wpAny_BinOp (h1 _ _ _ S fun _ _ _ ⟨_, e1⟩ S1 => h2 _ _ _ S1 fun _ _ _ ⟨_, e2⟩ S2 => by subst e1 e2; exact and_int (q _ _ _ ⟨_, rfl⟩ S2))
theorem ev_or (h1 : EvP w A env E s S l (.num a)) (h2 : EvP w A env E s S r (.num b)) : EvP w A env E s S (.BinOp l .BitOr r pos) (.num (Builtin.bitOr a b)) := fun _ _ _ S q =>
  wpAny_BinOp (h1 _ _ _ S fun _ _ _ ⟨_, e1⟩ S1 => h2 _ _ _ S1 fun _ _ _ ⟨_, e2⟩ S2 => by subst e1 e2; exact or_int (q _ _ _ ⟨_, rfl⟩ S2))
theorem ev_shl (h1 : EvP w A env E s S l (.num a)) (h2 : EvP w A env E s S r (.num b)) (h : 0 ≤ b ∧ (Builtin.Int.intBits a : Int) + b ≤ 2 ^ 27) : EvP w A env E s S (.BinOp l .LShift r pos) (.num (a * 2 ^ b.toNat)) := fun _ _ _ S q =>
  wpAny_BinOp (h1 _ _ _ S fun _ _ _ ⟨_, e1⟩ S1 => h2 _ _ _ S1 fun _ _ _ ⟨_, e2⟩ S2 => by subst e1 e2; exact lshift_int h.1 h.2 (q _ _ _ ⟨_, rfl⟩ S2))
theorem ev_shr (h1 : EvP w A env E s S l (.num a)) (h2 : EvP w A env E s S r (.num b)) (h : 0 ≤ b) : EvP w A env E s S (.BinOp l .RShift r pos) (.num (a.fdiv (2 ^ b.toNat))) := fun _ _ _ S q =>
  wpAny_BinOp (h1 _ _ _ S fun _ _ _ ⟨_, e1⟩ S1 => h2 _ _ _ S1 fun _ _ _ ⟨_, e2⟩ S2 => by subst e1 e2; exact rshift_int h (q _ _ _ ⟨_, rfl⟩ S2))
theorem ev_adds (h1 : EvP w A env E s S l (.txt x)) (h2 : EvP w A env E s S r (.txt y)) (hl : x.length + y.length ≤ big) : EvP w A env E s S (.BinOp l .Add r pos) (.txt (x ++ y)) := fun _ _ _ S q =>
  wpAny_BinOp (h1 _ _ _ S fun _ _ _ ⟨_, _, e1⟩ S1 => h2 _ _ _ S1 fun _ _ _ ⟨_, _, e2⟩ S2 => by
    subst e1 e2
    exact add_str (fun _ _ => q _ _ _ ⟨by rw [Str.length_append]; exact hl, _, rfl⟩ S2) (by rw [sizeLine_eq]; unfold big at hl; omega))
theorem go_str {v : Expr} {t : Tok} (rv : Value) : letTemporaryGo v (.str x t) rv = pure () := by cases v <;> rfl
theorem ev_slice_ss {vx lo hi : Expr} {sp : Pos} (hS : ∀ h, S h → SlI S h) (h0 : EvP w A env E s S vx (.txt x)) (h1 : EvP w A env E s S lo (.num a)) (h2 : EvP w A env E s S hi (.num b)) :
    EvP w A env E s S (.Subscript vx (.Slice (some lo) (some hi) none sp) pos) (.txt (Txt.slice x (some a) (some b))) := fun _ _ _ S q =>
  Subscript_ (h0 _ _ _ S fun _ _ _ ⟨hb, t, e0⟩ S0 => wpAny_Slice (evalPart_some_step (h1 _ _ _ S0 fun _ _ _ ⟨_, e1⟩ S1 => evalPart_some_step (h2 _ _ _ S1 fun _ _ _ ⟨_, e2⟩ S2 =>
    evalPart_none_step (by
      subst e0 e1 e2
      obtain ⟨h₀, L, m, news, F, N, close⟩ := hS _ S2
      exact slice_strN_ss_len (s := { s with heap := _, toks := _ }) F N (fun _ _ _ F' N' hl => q _ _ _ ⟨Nat.le_trans hl hb, _, rfl⟩ (close _ F' N')) rfl go_str (big_line hb))))))
theorem ev_slice_sn {vx lo : Expr} {sp : Pos} (hS : ∀ h, S h → SlI S h) (h0 : EvP w A env E s S vx (.txt x)) (h1 : EvP w A env E s S lo (.num a)) :
    EvP w A env E s S (.Subscript vx (.Slice (some lo) none none sp) pos) (.txt (Txt.slice x (some a) none)) := fun _ _ _ S q =>
  Subscript_ (h0 _ _ _ S fun _ _ _ ⟨hb, t, e0⟩ S0 => wpAny_Slice (evalPart_some_step (h1 _ _ _ S0 fun _ _ _ ⟨_, e1⟩ S2 => evalPart_none_step (evalPart_none_step (by
      subst e0 e1
      obtain ⟨h₀, L, m, news, F, N, close⟩ := hS _ S2
      exact slice_strN_sn_len (s := { s with heap := _, toks := _ }) F N (fun _ _ _ F' N' hl => q _ _ _ ⟨Nat.le_trans hl hb, _, rfl⟩ (close _ F' N')) rfl go_str (big_line hb))))))
theorem ev_slice_ns {vx hi : Expr} {sp : Pos} (hS : ∀ h, S h → SlI S h) (h0 : EvP w A env E s S vx (.txt x)) (h2 : EvP w A env E s S hi (.num b)) :
    EvP w A env E s S (.Subscript vx (.Slice none (some hi) none sp) pos) (.txt (Txt.slice x none (some b))) := fun _ _ _ S q =>
  Subscript_ (h0 _ _ _ S fun _ _ _ ⟨hb, t, e0⟩ S0 => wpAny_Slice (evalPart_none_step (evalPart_some_step (h2 _ _ _ S0 fun _ _ _ ⟨_, e1⟩ S2 => evalPart_none_step (by
      subst e0 e1
      obtain ⟨h₀, L, m, news, F, N, close⟩ := hS _ S2
      exact slice_strN_ns_len (s := { s with heap := _, toks := _ }) F N (fun _ _ _ F' N' hl => q _ _ _ ⟨Nat.le_trans hl hb, _, rfl⟩ (close _ F' N')) rfl go_str (big_line hb))))))
theorem sub_plain {i : Expr} (hi : isSlice i = false) (o j : Value) : subscripted i false o j = operate [o, j] (getItem o j) := by
  cases i <;> first | rfl | cases hi
theorem ev_item {vx ix : Expr} (h0 : EvP w A env E s S vx (.txt x)) (h1 : EvP w A env E s S ix (.num a)) (hi : isSlice ix = false) (hr : -(x.length : Int) ≤ a ∧ a < x.length) :
    EvP w A env E s S (.Subscript vx ix pos) (.txt (Txt.item x a)) := fun _ _ _ S q =>
  Subscript_ (h0 _ _ _ S fun _ _ _ ⟨hb, t, e0⟩ S0 => h1 _ _ _ S0 fun _ _ _ ⟨_, e1⟩ S1 => by
    subst e0 e1
    unfold big at hb
    refine item_str (fitsSsize_of (N := 9223372036854775808) (by omega) (by omega) (Int.le_refl _)) hr.1 hr.2 (fun _ => q _ _ _ ⟨by rw [item_length]; unfold big; omega, _, rfl⟩ S1) (sub_plain hi _ _) go_str)
theorem no_len {p : Params} : nsIn (Kx p) mainGlobals "len" = some none := by kernel_rfl
theorem star_not {e : Expr} {es : List Expr} {env : Env} (h : isStar e = false) : starEach (e :: es) env = (false, eval e env) :: starEach es env := by
  cases e <;> first | rfl | cases h
theorem ev_len0 {e : Expr} {p2 : Pos} (h0 : EvP w A env E s S (.Name "len" p2) (.val (.builtin "len"))) (h1 : EvP w A env E s S e (.txt x)) (hs : isStar e = false) : EvP w A env E s S (.Call (.Name "len" p2) [e] [] pos) (.num x.length) := fun _ _ _ S q =>
  Call_ (h0 _ _ _ S fun _ _ _ e0 S0 => by
    cases e0
    exact callWith_builtin1 (args_cons (h1 _ _ _ S0 fun _ _ _ ⟨hb, _, e1⟩ S1 => args_nil (by subst e1; unfold big at hb; exact PySem.P.len_str (by omega) (q _ _ _ ⟨_, rfl⟩ S1))) (star_not hs)) (star_not hs) rfl) (by cases e <;> rfl)
end
section
variable {w : World} {cs : Scope} {md : Bool} {C : CxU w cs md} {kp : List (Addr × Obj)} {f : SF} {n : SL} {pos : Pos} {x : Str}
theorem C_in (C : CxU w cs md) : (Kx w.params).In C.s.heap ∧ ∃ mg mb mean, Top vw lsW mean mg mb C.s.heap := by
  obtain ⟨_, _, _, _, _, _, _, _, _, _, _, X, T⟩ := C.site
  exact ⟨X, _, _, _, T⟩
inductive InI (w : World) (h : Heap) : Prop
  | mk (X : (Kx w.params).In h) (mg mb : Str → Option Value) (mean : ExcName → Option Value) (T : Top vw lsW mean mg mb h)
theorem C_inI (C : CxU w cs md) : InI w C.s.heap := by
  obtain ⟨_, _, _, _, _, _, _, _, _, _, _, X, T⟩ := C.site
  exact ⟨X, _, _, _, T⟩
theorem ev_B {x : Str} {v : Value} (e : nsIn (Kx w.params) mainGlobals x = some none) (hv : bootBuiltins x = some v) (hn : x ≠ "__name__")
    (hx : isGlo cs x = true) (hd : (x == ("__debug__" : Str)) = false) : Ev C kp f n (.Name x pos) (.val v) := fun _ _ _ S q => by
  obtain ⟨m, F, R⟩ := S.fr
  obtain ⟨X, mg, mb, mean, T⟩ := C_inI C
  have T := topRead_of T
  exact Name_function_global (env := C.env) C.hk (by unfold isGlo at hx; exact beq_iff_eq.mp hx) (loadGlobal_builtin (env := C.env) (s := C.at _ _) (T.g.keeps F.keep) (mg_none_of X T.g e) (T.b.keeps F.keep) ((T.builtins x hn).trans hv) (q _ _ _ rfl S)) hd
theorem ev_len {e : Expr} {p2 : Pos} (h1 : Ev C kp f n e (.txt x)) (hg : isGlo cs "len" = true) (hs : isStar e = false) : Ev C kp f n (.Call (.Name "len" p2) [e] [] pos) (.num x.length) := ev_len0 (ev_B no_len rfl (by decide) hg (by decide)) h1 hs
end
section
variable {w : World} {cs : Scope} {C : CxU w cs true} {kp : List (Addr × Obj)} {f : SF} {n : SL} {pos : Pos} {x : Str}
theorem ev_name {a : SV} (hv : lkS x f = some a) (hx : isLoc cs x = true) : Ev C kp f n (.Name x pos) a := fun _ _ _ S k => by
  obtain ⟨m, F, R⟩ := S.fr
  obtain ⟨v, h1, h2⟩ := R.nm x a hv
  unfold isLoc at hx
  rw [Bool.and_eq_true] at hx
  exact wpAny_Name (wpAny_loadName_local (env := C.env) (s := C.at _ _) C.hk (beq_iff_eq.mp hx.1) F.ns h1 (k _ _ _ h2 S)) (by simpa using hx.2)
end
end
section
open PySem PySem.W PySem.Calls PyProof PyProof.Rows
section
variable {c : List Prop} {r : OR} {P P' : SV → Prop}
def Ok (c : List Prop) (P : SV → Prop) (r : OR) : Prop := ∀ a c', r = some (a, c') → AllP c' → AllP c ∧ P a
theorem Ok.nil : Ok c P none := fun _ _ h => nomatch h
theorem Ok.one {a : SV} (d : P a) : Ok c P (some (a, c)) := fun _ _ h hp => by cases h; exact ⟨hp, d⟩
theorem Ok.ask {a : SV} {p : Prop} (d : p → P a) : Ok c P (some (a, p :: c)) := fun _ _ h hp => by cases h; exact ⟨hp.2, d hp.1⟩
theorem Ok.gate {b : Bool} (d : b = true → Ok c P r) : Ok c P (gate b r) := by
  cases b with
  | true => exact d rfl
  | false => exact .nil
theorem Ok.num {g : Int → List Prop → OR} (h : Ok c P r) (k : ∀ a c1, Ok c1 (fun b => P (.num a) → P' b) (g a c1)) : Ok c P' (oNum r g) := fun b c' hr hp => by
  rcases r with _ | ⟨_ | _ | _, c1⟩ <;> first | (cases hr; done) | skip
  obtain ⟨h1, h2⟩ := k _ _ b c' hr hp
  obtain ⟨h3, h4⟩ := h _ _ rfl h1
  exact ⟨h3, h2 h4⟩
theorem Ok.txt {g : Str → List Prop → OR} (h : Ok c P r) (k : ∀ a c1, Ok c1 (fun b => P (.txt a) → P' b) (g a c1)) : Ok c P' (oTxt r g) := fun b c' hr hp => by
  rcases r with _ | ⟨_ | _ | _, c1⟩ <;> first | (cases hr; done) | skip
  obtain ⟨h1, h2⟩ := k _ _ b c' hr hp
  obtain ⟨h3, h4⟩ := h _ _ rfl h1
  exact ⟨h3, h2 h4⟩
theorem Ok.two {g : Int → List Prop → OR} {g' : Str → List Prop → OR} (h : Ok c P r) (k : ∀ a c1, Ok c1 (fun b => P (.num a) → P' b) (g a c1)) (k' : ∀ a c1, Ok c1 (fun b => P (.txt a) → P' b) (g' a c1)) : Ok c P' (oTwo r g g') := fun b c' hr hp => by
  rcases r with _ | ⟨_ | _ | _, c1⟩ <;> first | (cases hr; done) | skip
  · obtain ⟨h1, h2⟩ := k _ _ b c' hr hp
    obtain ⟨h3, h4⟩ := h _ _ rfl h1
    exact ⟨h3, h2 h4⟩
  · obtain ⟨h1, h2⟩ := k' _ _ b c' hr hp
    obtain ⟨h3, h4⟩ := h _ _ rfl h1
    exact ⟨h3, h2 h4⟩
end
structure Orc (cc : Bool) (w : World) (cs : Scope) (f : SF) (A : Around) (env : Env) (E : Value → Shared → Prop) (s : Shared) (S : Heap → Prop) : Prop where
  nm : ∀ x a pos, (isLoc cs x || (cc && isCel cs x)) = true → lkS x f = some a → EvP w A env E s S (.Name x pos) a
  len : isGlo cs "len" = true → ∀ pos, EvP w A env E s S (.Name "len" pos) (.val (.builtin "len"))
  sl : ∀ h, S h → SlI S h
section
variable {w : World} {cc : Bool} {cs : Scope} {f : SF} {A : Around} {env : Env} {E : Value → Shared → Prop} {s : Shared} {S : Heap → Prop} {c : List Prop} {pos p2 : Pos}
theorem bin_ok {op : Operator} {l r : Expr} {vl : OR} {vr : List Prop → OR} (hl : Ok c (EvP w A env E s S l) vl) (hr : ∀ c, Ok c (EvP w A env E s S r) (vr c)) : Ok c (EvP w A env E s S (.BinOp l op r pos)) (binV op vl vr) := by
  cases op
  case Add => exact .two hl (fun _ _ => .num (hr _) fun _ _ => .one fun d2 d1 => ev_add d1 d2) (fun _ _ => .txt (hr _) fun _ _ => .ask fun p d2 d1 => ev_adds d1 d2 p)
  case Sub => exact .num hl fun _ _ => .num (hr _) fun _ _ => .one fun d2 d1 => ev_sub d1 d2
  case Mult => exact .num hl fun _ _ => .num (hr _) fun _ _ => .ask fun p d2 d1 => ev_mul d1 d2 p
  case FloorDiv => exact .num hl fun _ _ => .num (hr _) fun _ _ => .ask fun p d2 d1 => ev_fdiv d1 d2 p
  case Mod => exact .num hl fun _ _ => .num (hr _) fun _ _ => .ask fun p d2 d1 => ev_fmod d1 d2 p
  case Pow => exact .num hl fun _ _ => .num (hr _) fun _ _ => .ask fun p d2 d1 => ev_pow d1 d2 p
  case BitAnd => exact .num hl fun _ _ => .num (hr _) fun _ _ => .one fun d2 d1 => ev_and d1 d2
  case BitOr => exact .num hl fun _ _ => .num (hr _) fun _ _ => .one fun d2 d1 => ev_or d1 d2
  case LShift => exact .num hl fun _ _ => .num (hr _) fun _ _ => .ask fun p d2 d1 => ev_shl d1 d2 p
  case RShift => exact .num hl fun _ _ => .num (hr _) fun _ _ => .ask fun p d2 d1 => ev_shr d1 d2 p
  all_goals exact .nil
theorem sub_ok (hS : ∀ h, S h → SlI S h) {v sl : Expr} {vv : OR} {vr : Expr → List Prop → OR} (hv : Ok c (EvP w A env E s S v) vv) (hr : ∀ e c, Ok c (EvP w A env E s S e) (vr e c)) : Ok c (EvP w A env E s S (.Subscript v sl pos)) (subV sl vv vr) := by
  have key : ∀ sl, Ok c (EvP w A env E s S (.Subscript v sl pos)) (gate (!isSlice sl) (oTxt vv fun x c1 => oNum (vr sl c1) fun a c2 => some (.txt (Txt.item x a), (-(x.length : Int) ≤ a ∧ a < x.length) :: c2))) := fun sl =>
    .gate fun hs => .txt hv fun _ _ => .num (hr _ _) fun _ _ => .ask fun p d2 d1 => ev_item d1 d2 (by simpa using hs) p
  cases sl
  case Slice lo hi st sp =>
    rcases lo with _ | lo <;> rcases hi with _ | hi <;> rcases st with _ | st <;> first | exact .nil | skip
    · exact .txt hv fun _ _ => .num (hr _ _) fun _ _ => .one fun d2 d1 => ev_slice_ns hS d1 d2
    · exact .txt hv fun _ _ => .num (hr _ _) fun _ _ => .one fun d2 d1 => ev_slice_sn hS d1 d2
    · exact .txt hv fun _ _ => .num (hr _ _) fun _ _ => .num (hr _ _) fun _ _ => .one fun d3 d2 d1 => ev_slice_ss hS d1 d2 d3
  all_goals exact key _
theorem len_ok (h0 : isGlo cs "len" = true → ∀ pos, EvP w A env E s S (.Name "len" pos) (.val (.builtin "len"))) {fx : Expr} {args : List Expr} {kw : List Keyword} {vr : Expr → OR} (hr : ∀ e, Ok c (EvP w A env E s S e) (vr e)) : Ok c (EvP w A env E s S (.Call fx args kw pos)) (lenV cs fx args kw vr) := by
  cases fx
  case Name y p2 =>
    rcases args with _ | ⟨e, _ | ⟨e2, es⟩⟩ <;> rcases kw with _ | ⟨q, kw⟩ <;> first | exact .nil | skip
    refine .gate fun hb => .txt (hr _) fun _ _ => .one fun d1 => ?_
    rw [Bool.and_eq_true, Bool.and_eq_true] at hb
    obtain rfl := beq_iff_eq.mp hb.1.1
    exact ev_len0 (h0 hb.1.2 _) d1 (by simpa using hb.2)
  all_goals exact .nil
theorem evC_ok (O : Orc cc w cs f A env E s S) (k : Nat) : ∀ (e : Expr) (c : List Prop), Ok c (EvP w A env E s S e) (evC cc cs f k e c) := by
  induction k with
  | zero => exact fun _ _ => .nil
  | succ k ih =>
    intro e c
    cases e
    case Constant v q pos => cases v <;> first | exact .one ev_int | exact .one ev_none | exact .ask ev_str | exact .nil
    case Name x pos =>
      refine .gate fun hl => ?_
      cases hv : lkS x f with
      | none => exact .nil
      | some a => exact .one (O.nm _ _ _ hl hv)
    case BinOp l op r pos => exact bin_ok (ih l c) (ih r)
    case Subscript v sl pos => exact sub_ok O.sl (ih v c) ih
    case Call fx args kw pos => exact len_ok O.len fun e => ih e c
    case UnaryOp op e pos =>
      cases op
      case USub => exact .num (ih e c) fun _ _ => .one fun d => ev_neg d
      all_goals exact .nil
    all_goals exact .nil
theorem evc (O : Orc cc w cs f A env E s S) {e : Expr} {a : SV} {c : List Prop} (h : autoParam (evC cc cs f 30 e [] = some (a, c)) tR) (hp : autoParam (AllP c) tT) : EvP w A env E s S e a := (evC_ok O 30 e [] a c h hp).2
end
section
variable {w : World} {cs : Scope} {md : Bool} {C : CxU w cs md} {kp : List (Addr × Obj)} {f : SF} {n : SL} {c : List Prop} {pos p2 : Pos}
theorem St_sl : ∀ h, C.St kp f n h → SlI (C.St kp f n) h := fun h S => by
  obtain ⟨m, F, R⟩ := S.fr
  obtain ⟨nw, N, K⟩ := S.nw
  exact ⟨_, _, m, _, F, N, fun h' F' N' => .mk' F' R N' K S.nd S.off⟩
end
section
variable {w : World} {cs : Scope} {C : CxU w cs true} {kp : List (Addr × Obj)} {f : SF} {n : SL} {c : List Prop} {pos p2 : Pos}
theorem C_orc : Orc false w cs f C.A C.env C.E C.s (C.St kp f n) := ⟨fun x a pos hx hv => ev_name hv (by rw [Bool.false_and, Bool.or_false] at hx; exact hx), fun hg _ => ev_B no_len rfl (by decide) hg (by decide), St_sl⟩
theorem evE_ok (k : Nat) (e : Expr) (c : List Prop) : Ok c (Ev C kp f n e) (evE cs f k e c) := evC_ok C_orc k e c
theorem ev {e : Expr} {a : SV} {c : List Prop} (h : autoParam (evE cs f 30 e [] = some (a, c)) tR) (hp : autoParam (AllP c) tT) : Ev C kp f n e a := (evE_ok 30 e [] a c h hp).2
theorem EvX.v {e : Expr} {a : SV} {c : List Prop} {R : SV → SL → Prop} (k : R a n) (h : autoParam (evE cs f 30 e [] = some (a, c)) tR) (hp : autoParam (AllP c) tT) : EvX C kp f n e R := (ev h hp).x k
end
end
section
open PySem PySem.W PySem.Calls PyProof PyProof.Rows
abbrev TR := Option (Prop × List Prop)
noncomputable def tNum (r : OR) (k : Int → List Prop → TR) : TR := match r with | some (.num a, c) => k a c | _ => none
noncomputable def tTxt (r : OR) (k : Str → List Prop → TR) : TR := match r with | some (.txt a, c) => k a c | _ => none
noncomputable def tTwo (r : OR) (k : Int → List Prop → TR) (k' : Str → List Prop → TR) : TR := match r with | some (.num a, c) => k a c | some (.txt a, c) => k' a c | _ => none
noncomputable def tAny (r : OR) (k : SV → List Prop → TR) : TR := match r with | some (a, c) => k a c | _ => none
noncomputable def tTst (r : TR) (k : Prop → List Prop → TR) : TR := match r with | some (p, c) => k p c | _ => none
noncomputable def cImp (p : Prop) (c2 c1 : List Prop) : List Prop := match c2 with | [] => c1 | q :: r => (p → AllP (q :: r)) :: c1
theorem cImp_ok {p : Prop} {c2 c1 : List Prop} (h : AllP (cImp p c2 c1)) : AllP c1 ∧ (p → AllP c2) := by
  cases c2 with
  | nil => exact ⟨h, fun _ => trivial⟩
  | cons q r => exact ⟨h.2, h.1⟩
noncomputable def noneP : SV → Option Bool
  | .num _ => some false
  | .txt _ => some false
  | .val .none => some true
  | .val (.ref _) => some false
  | _ => none
theorem noneP_ok {a : SV} {b : Bool} {v : Value} (h : noneP a = some b) (ha : a.Is v) : (v == Value.none) = b := by
  cases a with
  | num i => obtain ⟨u, rfl⟩ := ha; cases h; rfl
  | txt i => obtain ⟨_, u, rfl⟩ := ha; cases h; rfl
  | val x => cases ha; cases v <;> first | (cases h; rfl) | (cases h)
noncomputable def noneT (b : Bool) (v : SV) (c : List Prop) : TR := match noneP v with | some d => some (d = b, c) | none => none
noncomputable def isNone : Expr → Bool
  | .Constant .none _ _ => true
  | _ => false
noncomputable def tgate (b : Bool) (r : TR) : TR := match b with | true => r | false => none
noncomputable def cmpV (op : CmpOp) (rn : Bool) (l : OR) (r : List Prop → OR) : TR := match op with
  | .Lt => tNum l fun a c1 => tNum (r c1) fun b c2 => some (a < b, c2)
  | .Gt => tNum l fun a c1 => tNum (r c1) fun b c2 => some (b < a, c2)
  | .LtE => tNum l fun a c1 => tNum (r c1) fun b c2 => some (a ≤ b, c2)
  | .GtE => tNum l fun a c1 => tNum (r c1) fun b c2 => some (b ≤ a, c2)
  | .Eq => tTwo l (fun a c1 => tNum (r c1) fun b c2 => some (a = b, c2)) (fun a c1 => tTxt (r c1) fun b c2 => some (a = b, c2))
  | .NotEq => tTwo l (fun a c1 => tNum (r c1) fun b c2 => some (¬ a = b, c2)) (fun a c1 => tTxt (r c1) fun b c2 => some (¬ a = b, c2))
  | .Is => tgate rn (tAny l fun v c1 => noneT true v c1)
  | .IsNot => tgate rn (tAny l fun v c1 => noneT false v c1)
  | _ => none
noncomputable def chainV (ops : List CmpOp) (rs : List Expr) (l : OR) (r : Expr → List Prop → OR) : TR := match ops with
  | [] => none
  | op :: ops => match rs with
    | [] => none
    | r1 :: rs => match ops with
      | [] => match rs with
        | [] => cmpV op (isNone r1) l (r r1)
        | _ => none
      | op2 :: ops => match rs with
        | [] => none
        | r2 :: rs => match ops with
          | [] => match rs with
            | [] => tgate (op == .Eq && op2 == .NotEq) (tTxt l fun x c1 => tTxt (r r1 c1) fun y c2 => tTxt (r r2 c2) fun z c3 => some (x = y ∧ ¬ y = z, c3))
            | _ => none
          | _ => none
noncomputable def boolV (op : BoolOp) (es : List Expr) (c : List Prop) (r : Expr → List Prop → TR) (rest : List Expr → TR) : TR := match es with
  | [] => none
  | e :: es => match es with
    | [] => r e c
    | e2 :: es => match op with
      | .And => tTst (r e c) fun p c1 => tTst (rest (e2 :: es)) fun q c2 => some (p ∧ q, cImp p c2 c1)
      | .Or => tTst (r e c) fun p c1 => tTst (rest (e2 :: es)) fun q c2 => some (p ∨ q, cImp (¬ p) c2 c1)
noncomputable def truthV (a : SV) (c : List Prop) : TR := match a with
  | .num i => some (i ≠ 0, c)
  | .txt _ => none
  | .val v => match v with
    | .none => some (False, c)
    | .bool b => some (b = true, c)
    | _ => none
noncomputable def notV (op : UnaryOp) (r : TR) : TR := match op with
  | .Not => tTst r fun p c1 => some (¬ p, c1)
  | _ => none
noncomputable def tsC (cc : Bool) (cs : Scope) (f : SF) : Nat → Expr → List Prop → TR
  | 0, _, _ => none
  | k + 1, e, c => match e with
    | .Compare l ops rs _ => chainV ops rs (evC cc cs f 30 l c) (evC cc cs f 30)
    | .UnaryOp op e _ => notV op (tsC cc cs f k e c)
    | .BoolOp op es pos => boolV op es c (tsC cc cs f k) fun es => tsC cc cs f k (.BoolOp op es pos) []
    | .Name x _ => tgate (isLoc cs x || (cc && isCel cs x)) (tAny (nameV (lkS x f) c) truthV)
    | _ => none
noncomputable def tsE (cs : Scope) (f : SF) : Nat → Expr → List Prop → TR := tsC false cs f
theorem marks_not {op : CmpOp} {r : Expr} (h : op ≠ .In) (h' : op ≠ .NotIn) : behindInMarks op r = false := by
  cases r <;> try rfl
  unfold behindInMarks
  have : (op == CmpOp.In || op == CmpOp.NotIn) = false := by cases op <;> first | rfl | exact absurd rfl h | exact absurd rfl h'
  simp [this]
section
variable {w : World} {cc : Bool} {cs : Scope} {f : SF} {A : Around} {env : Env} {E : Value → Shared → Prop} {s : Shared} {S : Heap → Prop} {pos : Pos} {l r : Expr} {a b : Int} {x y : Str}
theorem tst_cmp {op : CmpOp} {a b : SV} {p : Prop} (h1 : EvP w A env E s S l a) (h2 : EvP w A env E s S r b) (h : op ≠ .In) (h' : op ≠ .NotIn)
    (hc : ∀ (u v : Value) (s : Shared) (Q : Value → Shared → Prop), a.Is u → b.Is v → (∀ c, (c = true ↔ p) → Q (.bool c) s) → wpAny (model pw w) A (compareOp op u v) Q E s) : TstP w A env E s S (.Compare l [op] [r] pos) p := fun _ _ _ S q =>
  wpAny_isTrue_Compare1 (h1 _ _ _ S fun _ _ _ e1 S1 => h2 _ _ _ S1 fun _ _ _ e2 S2 => hc _ _ _ _ e1 e2 fun c hcp => wpAny_truthy_bool (q _ _ _ hcp S2)) (marks_not h h')
theorem tst_chain {l r₁ r₂ : Expr} {x y z : Str} (h1 : EvP w A env E s S l (.txt x)) (h2 : EvP w A env E s S r₁ (.txt y)) (h3 : EvP w A env E s S r₂ (.txt z)) :
    TstP w A env E s S (.Compare l [.Eq, .NotEq] [r₁, r₂] pos) (x = y ∧ ¬ y = z) := fun _ _ _ S q =>
  isTrue_chain (h1 _ _ _ S fun _ _ _ ⟨_, _, e1⟩ S1 => test_link (h2 _ _ _ S1 fun _ h2' t2 ⟨_, _, e2⟩ S2 => by
    subst e1 e2
    refine eq_str (wpAny_truthy_bool ?_)
    by_cases e : x = y
    · rw [if_pos (by simpa using e)]
      exact test_last (h3 _ _ _ S2 fun _ _ _ ⟨_, _, e3⟩ S3 => by
        subst e3
        exact ne_str (wpAny_truthy_bool (q _ _ _ (by simp [e]) S3)))
    · rw [if_neg (by simpa using e)]
      exact q _ _ _ (by simp [e]) S2)) (by unfold lastMarks lastMarks; exact marks_not (by decide) (by decide))
theorem tst_not {e : Expr} {p : Prop} (h : TstP w A env E s S e p) : TstP w A env E s S (.UnaryOp .Not e pos) (¬ p) := fun _ _ _ S q =>
  isTrue_not (h _ _ _ S fun b _ _ hb S1 => q _ _ _ (by rw [← hb]; cases b <;> simp) S1)
theorem tst_and {e : Expr} {es : List Expr} {p q : Prop} (h : TstP w A env E s S e p) (h2 : p → ∀ whole (Q : Bool → Shared → Prop) h t, S h → (∀ (b : Bool) h' t', (b = true ↔ q) → S h' → Q b { s with heap := h', toks := t' }) → wpAny (model pw w) A (isTrue (.BoolOp .And es pos) env whole) Q E { s with heap := h, toks := t }) :
    ∀ whole (Q : Bool → Shared → Prop) h t, S h → (∀ (b : Bool) h' t', (b = true ↔ p ∧ q) → S h' → Q b { s with heap := h', toks := t' }) → wpAny (model pw w) A (isTrue (.BoolOp .And (e :: es) pos) env whole) Q E { s with heap := h, toks := t } := fun _ _ _ _ S k =>
  isTrue_and (h _ _ _ S fun b _ _ hb S1 => by
    cases b with
    | true => rw [if_pos rfl]; exact h2 (hb.mp rfl) _ _ _ _ S1 fun b' _ _ hb' S2 => k _ _ _ (by rw [hb']; exact ⟨fun h => ⟨hb.mp rfl, h⟩, fun h => h.2⟩) S2
    | false => rw [if_neg (by decide)]; exact k _ _ _ ⟨fun h => (by cases h), fun h => absurd (hb.mpr h.1) (by decide)⟩ S1)
theorem tst_or {e : Expr} {es : List Expr} {p q : Prop} (h : TstP w A env E s S e p) (h2 : ¬ p → ∀ whole (Q : Bool → Shared → Prop) h t, S h → (∀ (b : Bool) h' t', (b = true ↔ q) → S h' → Q b { s with heap := h', toks := t' }) → wpAny (model pw w) A (isTrue (.BoolOp .Or es pos) env whole) Q E { s with heap := h, toks := t }) :
    ∀ whole (Q : Bool → Shared → Prop) h t, S h → (∀ (b : Bool) h' t', (b = true ↔ p ∨ q) → S h' → Q b { s with heap := h', toks := t' }) → wpAny (model pw w) A (isTrue (.BoolOp .Or (e :: es) pos) env whole) Q E { s with heap := h, toks := t } := fun _ _ _ _ S k =>
  isTrue_or (h _ _ _ S fun b _ _ hb S1 => by
    cases b with
    | false =>
      have hn : ¬ p := fun hp => absurd (hb.mpr hp) (by decide)
      rw [if_neg (by decide)]; exact h2 hn _ _ _ _ S1 fun b' _ _ hb' S2 => k _ _ _ (by rw [hb']; exact ⟨fun h => .inr h, fun h => h.elim (fun a => absurd a hn) id⟩) S2
    | true => rw [if_pos rfl]; exact k _ _ _ ⟨fun _ => .inl (hb.mp rfl), fun _ => rfl⟩ S1)
def TstWP (w : World) (A : Around) (env : Env) (E : Value → Shared → Prop) (s : Shared) (S : Heap → Prop) (e : Expr) (p : Prop) : Prop :=
  ∀ (whole : Sem Value) (Q : Bool → Shared → Prop) (h : Heap) (t : Nat), S h → (∀ (b : Bool) h' t', (b = true ↔ p) → S h' → Q b { s with heap := h', toks := t' }) → wpAny (model pw w) A (isTrue e env whole) Q E { s with heap := h, toks := t }
end
section
variable {c : List Prop} {r : TR} {P P' : Prop → Prop}
def OkT (c : List Prop) (P : Prop → Prop) (r : TR) : Prop := ∀ a c', r = some (a, c') → AllP c' → AllP c ∧ P a
theorem OkT.nil : OkT c P none := fun _ _ h => nomatch h
theorem OkT.one {a : Prop} (d : P a) : OkT c P (some (a, c)) := fun _ _ h hp => by cases h; exact ⟨hp, d⟩
theorem OkT.gate {b : Bool} (d : b = true → OkT c P r) : OkT c P (tgate b r) := by
  cases b with
  | true => exact d rfl
  | false => exact .nil
theorem OkT.any {r : OR} {R : SV → Prop} {g : SV → List Prop → TR} (h : Ok c R r) (k : ∀ a c1, OkT c1 (fun b => R a → P' b) (g a c1)) : OkT c P' (tAny r g) := fun b c' hr hp => by
  rcases r with _ | ⟨a, c1⟩
  · cases hr
  obtain ⟨h1, h2⟩ := k _ _ b c' hr hp
  obtain ⟨h3, h4⟩ := h _ _ rfl h1
  exact ⟨h3, h2 h4⟩
theorem OkT.num {r : OR} {R : SV → Prop} {g : Int → List Prop → TR} (h : Ok c R r) (k : ∀ a c1, OkT c1 (fun b => R (.num a) → P' b) (g a c1)) : OkT c P' (tNum r g) := fun b c' hr hp => by
  rcases r with _ | ⟨_ | _ | _, c1⟩ <;> first | (cases hr; done) | skip
  obtain ⟨h1, h2⟩ := k _ _ b c' hr hp
  obtain ⟨h3, h4⟩ := h _ _ rfl h1
  exact ⟨h3, h2 h4⟩
theorem OkT.txt {r : OR} {R : SV → Prop} {g : Str → List Prop → TR} (h : Ok c R r) (k : ∀ a c1, OkT c1 (fun b => R (.txt a) → P' b) (g a c1)) : OkT c P' (tTxt r g) := fun b c' hr hp => by
  rcases r with _ | ⟨_ | _ | _, c1⟩ <;> first | (cases hr; done) | skip
  obtain ⟨h1, h2⟩ := k _ _ b c' hr hp
  obtain ⟨h3, h4⟩ := h _ _ rfl h1
  exact ⟨h3, h2 h4⟩
theorem OkT.two {r : OR} {R : SV → Prop} {g : Int → List Prop → TR} {g' : Str → List Prop → TR} (h : Ok c R r) (k : ∀ a c1, OkT c1 (fun b => R (.num a) → P' b) (g a c1)) (k' : ∀ a c1, OkT c1 (fun b => R (.txt a) → P' b) (g' a c1)) : OkT c P' (tTwo r g g') := fun b c' hr hp => by
  rcases r with _ | ⟨_ | _ | _, c1⟩ <;> first | (cases hr; done) | skip
  · obtain ⟨h1, h2⟩ := k _ _ b c' hr hp
    obtain ⟨h3, h4⟩ := h _ _ rfl h1
    exact ⟨h3, h2 h4⟩
  · obtain ⟨h1, h2⟩ := k' _ _ b c' hr hp
    obtain ⟨h3, h4⟩ := h _ _ rfl h1
    exact ⟨h3, h2 h4⟩
theorem OkT.tst {g : Prop → List Prop → TR} (h : OkT c P r) (k : ∀ a c1, OkT c1 (fun b => P a → P' b) (g a c1)) : OkT c P' (tTst r g) := fun b c' hr hp => by
  rcases r with _ | ⟨a, c1⟩
  · cases hr
  obtain ⟨h1, h2⟩ := k _ _ b c' hr hp
  obtain ⟨h3, h4⟩ := h _ _ rfl h1
  exact ⟨h3, h2 h4⟩
theorem OkT.mono (h : OkT c P r) (k : ∀ a, P a → P' a) : OkT c P' r := fun a c' hr hp => ⟨(h a c' hr hp).1, k a (h a c' hr hp).2⟩
theorem OkT.tst2 {p q' : Prop} {c1 : List Prop} {g : Prop → Prop} (h : OkT [] P r) (k : ∀ q, (p → P q) → P' (g q)) : OkT c1 P' (tTst r fun q c2 => some (g q, cImp p c2 c1)) := fun b c' hr hp => by
  rcases r with _ | ⟨q, c2⟩
  · cases hr
  · cases hr
    obtain ⟨h1, h2⟩ := cImp_ok hp
    exact ⟨h1, k q fun pp => (h q c2 rfl (h2 pp)).2⟩
end
section
variable {w : World} {cc : Bool} {cs : Scope} {f : SF} {A : Around} {env : Env} {E : Value → Shared → Prop} {s : Shared} {S : Heap → Prop} {c : List Prop} {pos p2 : Pos}
theorem none_ok {d : Bool} {v : SV} {l r : Expr} {op : CmpOp} (h : op = .Is ∧ d = true ∨ op = .IsNot ∧ d = false) (hr : isNone r = true) : OkT c (fun p => EvP w A env E s S l v → TstP w A env E s S (.Compare l [op] [r] pos) p) (noneT d v c) := by
  unfold noneT
  cases hv : noneP v with
  | none => exact .nil
  | some b =>
    refine .one fun e1 => ?_
    cases r <;> first | (cases hr; done) | skip
    rename_i k _ _
    cases k <;> first | (cases hr; done) | skip
    rcases h with ⟨rfl, rfl⟩ | ⟨rfl, rfl⟩
    · exact tst_cmp e1 ev_none (by decide) (by decide) fun u v s Q i1 i2 k => by cases i2; exact PyProof.Rows.is_none_gen (k _ (by rw [noneP_ok hv i1]))
    · exact tst_cmp e1 ev_none (by decide) (by decide) fun u v s Q i1 i2 k => by cases i2; exact PyProof.Rows.isnot_none_gen (k _ (by rw [noneP_ok hv i1]; cases b <;> simp))
theorem cmp_ok {op : CmpOp} {l r : Expr} {vl : OR} {vr : List Prop → OR} (hl : Ok c (EvP w A env E s S l) vl) (hr : ∀ c, Ok c (EvP w A env E s S r) (vr c)) : OkT c (TstP w A env E s S (.Compare l [op] [r] pos)) (cmpV op (isNone r) vl vr) := by
  cases op
  case Lt => exact .num hl fun _ _ => .num (hr _) fun _ _ => .one fun d2 d1 => tst_cmp d1 d2 (by decide) (by decide) fun u v s Q ⟨_, e1⟩ ⟨_, e2⟩ k => by subst e1 e2; exact lt_int (k _ decide_eq_true_iff)
  case Gt => exact .num hl fun _ _ => .num (hr _) fun _ _ => .one fun d2 d1 => tst_cmp d1 d2 (by decide) (by decide) fun u v s Q ⟨_, e1⟩ ⟨_, e2⟩ k => by subst e1 e2; exact gt_int (k _ decide_eq_true_iff)
  case LtE => exact .num hl fun _ _ => .num (hr _) fun _ _ => .one fun d2 d1 => tst_cmp d1 d2 (by decide) (by decide) fun u v s Q ⟨_, e1⟩ ⟨_, e2⟩ k => by subst e1 e2; exact PyProof.Rows.le_int (k _ decide_eq_true_iff)
  case GtE => exact .num hl fun _ _ => .num (hr _) fun _ _ => .one fun d2 d1 => tst_cmp d1 d2 (by decide) (by decide) fun u v s Q ⟨_, e1⟩ ⟨_, e2⟩ k => by subst e1 e2; exact PyProof.Rows.ge_int (k _ decide_eq_true_iff)
  case Eq => exact .two hl (fun _ _ => .num (hr _) fun _ _ => .one fun d2 d1 => tst_cmp (op := .Eq) d1 d2 (by decide) (by decide) fun u v s Q ⟨_, e1⟩ ⟨_, e2⟩ k => by subst e1 e2; exact eq_int (k _ beq_iff_eq)) (fun _ _ => .txt (hr _) fun _ _ => .one fun d2 d1 => tst_cmp (op := .Eq) d1 d2 (by decide) (by decide) fun u v s Q ⟨_, _, e1⟩ ⟨_, _, e2⟩ k => by subst e1 e2; exact eq_str (k _ beq_iff_eq))
  case NotEq => exact .two hl (fun _ _ => .num (hr _) fun _ _ => .one fun d2 d1 => tst_cmp (op := .NotEq) d1 d2 (by decide) (by decide) fun u v s Q ⟨_, e1⟩ ⟨_, e2⟩ k => by subst e1 e2; exact ne_int (k _ bne_iff_ne)) (fun _ _ => .txt (hr _) fun _ _ => .one fun d2 d1 => tst_cmp (op := .NotEq) d1 d2 (by decide) (by decide) fun u v s Q ⟨_, _, e1⟩ ⟨_, _, e2⟩ k => by subst e1 e2; exact ne_str (k _ bne_iff_ne))
  case Is => exact .gate fun hn => .any hl fun _ _ => none_ok (.inl ⟨rfl, rfl⟩) hn
  case IsNot => exact .gate fun hn => .any hl fun _ _ => none_ok (.inr ⟨rfl, rfl⟩) hn
  all_goals exact .nil
theorem chain_ok {ops : List CmpOp} {rs : List Expr} {l : Expr} {vl : OR} {vr : Expr → List Prop → OR} (hl : Ok c (EvP w A env E s S l) vl) (hr : ∀ e c, Ok c (EvP w A env E s S e) (vr e c)) : OkT c (TstP w A env E s S (.Compare l ops rs pos)) (chainV ops rs vl vr) := by
  rcases ops with _ | ⟨op, ops⟩
  · exact .nil
  rcases rs with _ | ⟨r1, rs⟩
  · exact .nil
  rcases ops with _ | ⟨op2, ops⟩
  · rcases rs with _ | ⟨r2, rs⟩
    · exact cmp_ok hl (hr r1)
    · exact .nil
  rcases rs with _ | ⟨r2, rs⟩
  · exact .nil
  rcases ops with _ | ⟨op3, ops⟩
  · rcases rs with _ | ⟨r3, rs⟩
    · refine .gate fun hb => ?_
      rw [Bool.and_eq_true] at hb
      obtain rfl : op = .Eq := by simpa using hb.1
      obtain rfl : op2 = .NotEq := by simpa using hb.2
      exact .txt hl fun _ _ => .txt (hr _ _) fun _ _ => .txt (hr _ _) fun _ _ => .one fun d3 d2 d1 => tst_chain d1 d2 d3
    · exact .nil
  · exact .nil
def TstB (w : World) (A : Around) (env : Env) (E : Value → Shared → Prop) (s : Shared) (S : Heap → Prop) (e : Expr) (p : Prop) : Prop := TstP w A env E s S e p ∧ ∀ op es pos, e = .BoolOp op es pos → TstWP w A env E s S e p
theorem bool_ok {op : BoolOp} {es : List Expr} {vr : Expr → List Prop → TR} {vs : List Expr → TR} (hr : ∀ e c, OkT c (TstB w A env E s S e) (vr e c)) (hs : ∀ es, OkT [] (TstB w A env E s S (.BoolOp op es pos)) (vs es)) : OkT c (TstB w A env E s S (.BoolOp op es pos)) (boolV op es c vr vs) := by
  have up : ∀ p, TstWP w A env E s S (.BoolOp op es pos) p → TstB w A env E s S (.BoolOp op es pos) p := fun p h => ⟨fun _ _ _ S q => h _ _ _ _ S q, fun _ _ _ _ => h⟩
  rcases es with _ | ⟨e, _ | ⟨e2, es⟩⟩
  · exact .nil
  · refine (hr e c).mono fun p e1 => up p ?_
    cases op
    · exact fun _ _ _ _ S q => isTrue_and (e1.1 _ _ _ S fun b _ _ hb S1 => by
          cases b with
          | true => rw [if_pos rfl]; exact isTrue_and_nil (q _ _ _ hb S1)
          | false => rw [if_neg (by decide)]; exact q _ _ _ hb S1)
    · exact fun _ _ _ _ S q => isTrue_or (e1.1 _ _ _ S fun b _ _ hb S1 => by
          cases b with
          | false => rw [if_neg (by decide)]; exact isTrue_or_nil (q _ _ _ hb S1)
          | true => rw [if_pos rfl]; exact q _ _ _ hb S1)
  · cases op
    · exact .tst (hr e c) fun p c1 => .tst2 (q' := p) (hs _) fun q k e1 => up _ (tst_and e1.1 fun pp => (k pp).2 _ _ _ rfl)
    · exact .tst (hr e c) fun p c1 => .tst2 (q' := p) (hs _) fun q k e1 => up _ (tst_or e1.1 fun pp => (k pp).2 _ _ _ rfl)
theorem truth_ok {x : Str} {a : SV} (d : EvP w A env E s S (.Name x pos) a) : OkT c (TstB w A env E s S (.Name x pos)) (truthV a c) := by
  have up : ∀ p, TstP w A env E s S (.Name x pos) p → TstB w A env E s S (.Name x pos) p := fun p h => ⟨h, fun _ _ _ e => nomatch e⟩
  cases a with
  | num i => exact .one (up _ fun _ _ _ S q => isTrue_plain (d _ _ _ S fun _ _ _ ⟨_, e⟩ S1 => by subst e; exact PyProof.Rows.truthy_int (q _ _ _ bne_iff_ne S1)))
  | txt x => exact .nil
  | val v =>
    cases v
    case none => exact .one (up _ fun _ _ _ S q => isTrue_plain (d _ _ _ S fun _ _ _ e S1 => by cases e; exact truthy_none (q _ _ _ ⟨fun h => (by cases h), fun h => False.elim h⟩ S1)))
    case bool b => exact .one (up _ fun _ _ _ S q => isTrue_plain (d _ _ _ S fun _ _ _ e S1 => by cases e; exact wpAny_truthy_bool (q _ _ _ Iff.rfl S1)))
    all_goals exact .nil
theorem tsC_ok (O : Orc cc w cs f A env E s S) (k : Nat) : ∀ (e : Expr) (c : List Prop), OkT c (TstB w A env E s S e) (tsC cc cs f k e c) := by
  induction k with
  | zero => exact fun _ _ => .nil
  | succ k ih =>
    intro e c
    cases e
    case Compare l ops rs pos => exact (chain_ok (evC_ok O 30 l c) (evC_ok O 30)).mono fun p h => ⟨h, fun _ _ _ e => nomatch e⟩
    case UnaryOp op e pos =>
      cases op
      case Not => exact .tst (ih e c) fun p c1 => .one fun d => ⟨tst_not d.1, fun _ _ _ e => nomatch e⟩
      all_goals exact .nil
    case BoolOp op es pos => exact bool_ok ih fun es => ih _ []
    case Name x pos =>
      refine .gate fun hl => ?_
      cases hv : lkS x f with
      | none => exact .nil
      | some a => exact truth_ok (O.nm _ _ _ hl hv)
    all_goals exact .nil
theorem tstc (O : Orc cc w cs f A env E s S) {e : Expr} {p : Prop} {c : List Prop} (h : autoParam (tsC cc cs f 30 e [] = some (p, c)) tR) (hp : autoParam (AllP c) tT) : TstP w A env E s S e p := (tsC_ok O 30 e [] p c h hp).2.1
end
section
variable {w : World} {cs : Scope} {md : Bool} {C : CxU w cs md} {kp : List (Addr × Obj)} {f : SF} {n : SL} {c : List Prop} {pos p2 : Pos}
abbrev TstW (C : CxU w cs md) (kp : List (Addr × Obj)) (f : SF) (n : SL) (e : Expr) (p : Prop) : Prop := TstWP w C.A C.env C.E C.s (C.St kp f n) e p
theorem tst_gt {l r : Expr} {a b : Int} (h1 : Ev C kp f n l (.num a)) (h2 : Ev C kp f n r (.num b)) : Tst C kp f n (.Compare l [.Gt] [r] pos) (b < a) :=
  tst_cmp h1 h2 (by decide) (by decide) fun u v s Q ⟨_, e1⟩ ⟨_, e2⟩ k => by subst e1 e2; exact gt_int (k _ decide_eq_true_iff)
end
section
variable {w : World} {cs : Scope} {C : CxU w cs true} {kp : List (Addr × Obj)} {f : SF} {n : SL} {c : List Prop} {pos p2 : Pos}
theorem tst {e : Expr} {p : Prop} {c : List Prop} (h : autoParam (tsE cs f 30 e [] = some (p, c)) tR) (hp : autoParam (AllP c) tT) : Tst C kp f n e p := (tsC_ok C_orc 30 e [] p c h hp).2.1
end
end
section
open PySem PySem.W PySem.Calls PyProof PyProof.Rows
section
variable {w : World} {cs : Scope} {C : Cx w cs} {kp : List (Addr × Obj)} {f : SF} {n : SL} {Q : Flow → Shared → Prop} {x : Str} {pos p2 : Pos} {rest : List Stmt}
def Seq (C : Cx w cs) (Q : Flow → Shared → Prop) (rest : List Stmt) (fl : Flow) (s' : Shared) : Prop :=
  match fl with
  | .next => wpAny (model pw w) C.A (execs rest C.env) Q C.E s'
  | f => Q f s'
noncomputable def isComp : Expr → Bool
  | .ListComp _ _ _ _ | .SetComp _ _ _ _ | .DictComp _ _ _ _ _ => true
  | _ => false
theorem swaps_not {e : Expr} {t : Option Expr} {l : Nat} {env : Env} (h : isComp e = false) : swapsWith e t l env = pure false := by
  cases e <;> first | rfl | cases h
theorem loc_of {cs : Scope} (hx : isLoc cs x = true) : (cs.names.lookup x = some .local) ∧ (x == ("__debug__" : Str)) = false := by
  unfold isLoc at hx
  rw [Bool.and_eq_true] at hx
  exact ⟨beq_iff_eq.mp hx.1, by simpa using hx.2⟩
theorem st_store {h : Heap} {t : Nat} {a : SV} {v : Value} {Q : Unit → Shared → Prop} (S : C.St kp f n h) (ha : a.Is v) (hx : isLoc cs x = true) (k : ∀ h' t', C.St kp ((x, a) :: f) n h' → Q () (C.at h' t')) :
    wpAny (model pw w) C.A (storeName C.env x v) Q C.E (C.at h t) := by
  obtain ⟨m, F, R⟩ := S.fr
  obtain ⟨nw, N, K⟩ := S.nw
  exact wpAny_storeName_local (env := C.env) (s := C.at h t) (loc_of hx).1 F.ns (fun h2 hn hs => k h2 _ (.mk' (F.set hn hs) (R.set ha) (N.set hs) K S.nd S.off)) (by show (cs.kind == .class || (cs.kind == .module && C.lo != mainGlobals)) = false; rw [C.hk]; rfl)
theorem g_set {e : Expr} (d : EvX C kp f n e (fun a n' => G C kp ((x, a) :: f) n' Q rest)) (hx : autoParam (isLoc cs x = true) tR) (hs : autoParam (isComp e = false) tR) :
    G C kp f n Q (.Assign [.Name x p2] e pos :: rest) := .mk fun h t S =>
  wpAny_execs_cons (wpAny_Assign_Name (d _ h t S fun v a n' h' t' hr ha S' => st_store S' ha hx fun h2 t2 S2 => hr.run h2 t2 S2) (swaps_not hs))
theorem g_assign {e : Expr} {a : SV} {c : List Prop} (k : G C kp ((x, a) :: f) n Q rest) (d : autoParam (evE cs f 30 e [] = some (a, c)) tR) (hp : autoParam (AllP c) tT) (hx : autoParam (isLoc cs x = true) tR) (hs : autoParam (isComp e = false) tR) :
    G C kp f n Q (.Assign [.Name x p2] e pos :: rest) := g_set ((ev d hp).x k) hx hs
theorem g_seq (k : G C kp f n Q rest) : G C kp f n (Seq C Q rest) [] := .mk fun h t S => wpAny_execs_nil (k.run h t S)
theorem g_nil (k : ∀ h t, C.St kp f n h → Q .next (C.at h t)) : G C kp f n Q [] := .mk fun h t S => wpAny_execs_nil (k h t S)
theorem g_brk (k : ∀ h t, C.St kp f n h → Q .brk (C.at h t)) : G C kp f n Q (.Break pos :: rest) := .mk fun h t S => wpAny_execs_cons (wpAny_Break (k h t S))
theorem g_cont (k : ∀ h t, C.St kp f n h → Q .cont (C.at h t)) : G C kp f n Q (.Continue pos :: rest) := .mk fun h t S => wpAny_execs_cons (wpAny_Continue (k h t S))
theorem g_retX {e : Expr} (d : EvX C kp f n e (fun a n' => ∀ v h t, a.Is v → C.St kp f n' h → Q (.ret v) (C.at h t))) : G C kp f n Q (.Return (some e) pos :: rest) := .mk fun h t S =>
  wpAny_execs_cons (wpAny_Return_some (d _ h t S fun v a n' h' t' hr ha S' => hr v h' t' ha S'))
theorem g_ret {e : Expr} {a : SV} {c : List Prop} (k : ∀ v h t, a.Is v → C.St kp f n h → Q (.ret v) (C.at h t)) (d : autoParam (evE cs f 30 e [] = some (a, c)) tR) (hp : autoParam (AllP c) tT) : G C kp f n Q (.Return (some e) pos :: rest) :=
  g_retX ((ev d hp).x k)
theorem g_ifT {test : Expr} {body orelse : List Stmt} {p : Prop} (d : Tst C kp f n test p) (k1 : p → G C kp f n (Seq C Q rest) body) (k2 : ¬ p → G C kp f n (Seq C Q rest) orelse) :
    G C kp f n Q (.If test body orelse pos :: rest) := .mk fun h t S =>
  wpAny_execs_cons (wpAny_If (d _ h t S fun b h' t' hb S' => by
    cases b with
    | true => exact wpAny_mono ((k1 (hb.mp rfl)).run h' t' S') (fun fl s' q => by cases fl <;> exact q) fun _ _ e => e
    | false => exact wpAny_mono ((k2 (fun hp => Bool.false_ne_true (hb.mpr hp))).run h' t' S') (fun fl s' q => by cases fl <;> exact q) fun _ _ e => e))
theorem g_if {test : Expr} {body orelse : List Stmt} {p : Prop} {c : List Prop} (k1 : p → G C kp f n (Seq C Q rest) body) (k2 : ¬ p → G C kp f n (Seq C Q rest) orelse) (d : autoParam (tsE cs f 30 test [] = some (p, c)) tR) (hp : autoParam (AllP c) tT) :
    G C kp f n Q (.If test body orelse pos :: rest) := g_ifT (tst d hp) k1 k2
theorem g_aug {e : Expr} {i j : Int} {c : List Prop} (k : G C kp ((x, .num (i + j)) :: f) n Q rest) (h1 : autoParam (lkS x f = some (.num i)) tR) (d : autoParam (evE cs f 30 e [] = some (.num j, c)) tR) (hp : autoParam (AllP c) tT) (hx : autoParam (isLoc cs x = true) tR) : G C kp f n Q (.AugAssign (.Name x p2) .Add e pos :: rest) := .mk fun h t S =>
  wpAny_execs_cons (wpAny_AugAssign_Name (by
    obtain ⟨m, F, R⟩ := S.fr
    obtain ⟨v, hv, u, rfl⟩ := R.nm _ _ h1
    refine wpAny_loadName_local C.hk (loc_of hx).1 F.ns hv ?_
    refine ev d hp _ h t S fun v h' t' hw S' => ?_
    obtain ⟨u', rfl⟩ := hw
    refine iadd_int ?_
    exact st_store (a := .num (i + j)) S' ⟨_, rfl⟩ hx fun h2 t2 S2 => k.run h2 t2 S2))
structure Pick (n' n : SL) : Prop where
  sub : ∀ p ∈ n', ∃ P, (p.1, P) ∈ n ∧ ∀ o, P o → p.2 o
  nd : (n.map (·.1)).Nodup → (n'.map (·.1)).Nodup
theorem Pick.i {n n' : SL} (idx : List Nat) (e : idx.map (fun i => n[i]?) = n'.map some) (d : autoParam (idx.Nodup) tD) : Pick n' n := by
  refine ⟨fun p hp => ?_, fun nd => ?_⟩
  · have : some p ∈ n'.map some := List.mem_map.mpr ⟨p, hp, rfl⟩
    rw [← e] at this
    obtain ⟨i, _, hi⟩ := List.mem_map.mp this
    exact ⟨p.2, List.mem_of_getElem? hi, fun _ h => h⟩
  · unfold List.Nodup at *
    have h1 : (n'.map some).map (fun o => o.map (fun p : Addr × (Obj → Prop) => p.1)) = idx.map fun i => (n[i]?).map fun p => p.1 := by rw [← e, List.map_map]; rfl
    rw [List.map_map] at h1
    have h2 : List.Pairwise (fun a b => a ≠ b) ((n'.map (·.1)).map some) := by
      rw [List.map_map, show ((some ∘ fun p : Addr × (Obj → Prop) => p.1)) = ((fun o : Option (Addr × (Obj → Prop)) => o.map (fun p => p.1)) ∘ some) from rfl, h1]
      rw [List.pairwise_map]
      refine List.Pairwise.imp_of_mem ?_ d
      intro i j hi hj hne e'
      have ai : n[i]? ≠ none := fun q => by
        have : n[i]? ∈ n'.map some := e ▸ List.mem_map.mpr ⟨i, hi, rfl⟩
        rw [q] at this
        obtain ⟨_, _, h⟩ := List.mem_map.mp this
        cases h
      have aj : n[j]? ≠ none := fun q => by
        have : n[j]? ∈ n'.map some := e ▸ List.mem_map.mpr ⟨j, hj, rfl⟩
        rw [q] at this
        obtain ⟨_, _, h⟩ := List.mem_map.mp this
        cases h
      obtain ⟨li, _⟩ := List.getElem?_eq_some_iff.mp (Option.ne_none_iff_exists'.mp ai).choose_spec
      obtain ⟨lj, _⟩ := List.getElem?_eq_some_iff.mp (Option.ne_none_iff_exists'.mp aj).choose_spec
      rw [List.getElem?_eq_getElem li, List.getElem?_eq_getElem lj] at e'
      have := List.pairwise_iff_getElem.mp nd
      rcases Nat.lt_or_gt_of_ne hne with q | q
      · exact this i j (by simpa using li) (by simpa using lj) q (by simpa using e')
      · exact this j i (by simpa using lj) (by simpa using li) q (by simpa using e'.symm)
    rw [List.pairwise_map] at h2
    exact h2.imp fun h e => h (congrArg some e)
theorem Pick.rfl {n : SL} : Pick n n := ⟨fun p h => ⟨p.2, h, fun _ h => h⟩, id⟩
theorem Pick.head {n : SL} {D : Addr} {P P' : Obj → Prop} (h : ∀ o, P o → P' o) : Pick ((D, P') :: n) ((D, P) :: n) := ⟨fun p hp => by
    rcases List.mem_cons.mp hp with rfl | hp
    · exact ⟨P, .head _, h⟩
    · exact ⟨p.2, .tail _ hp, fun _ h => h⟩, id⟩
theorem Pick.t {l l' tl : SL} (h : Pick l' l) : Pick (l' ++ tl) (l ++ tl) := ⟨fun p hp => by
    rcases List.mem_append.mp hp with hp | hp
    · obtain ⟨P, h1, h2⟩ := h.sub p hp
      exact ⟨P, List.mem_append_left _ h1, h2⟩
    · exact ⟨p.2, List.mem_append_right _ hp, fun _ h => h⟩, fun nd => by
    rw [List.map_append, List.nodup_append] at *
    refine ⟨h.nd nd.1, nd.2.1, fun a ha b hb => ?_⟩
    obtain ⟨p, hp, e⟩ := List.mem_map.mp ha
    obtain ⟨P, h1, h2⟩ := h.sub p hp
    exact nd.2.2 a (List.mem_map.mpr ⟨_, h1, e⟩) b hb⟩
theorem Pick.t2 {a b l tl : SL} (h : Pick (a ++ b) l) : Pick (a ++ (b ++ tl)) (l ++ tl) := by rw [← List.append_assoc]; exact h.t
theorem Pick.t3 {a b l tl : SL} (h : Pick l (a ++ b)) : Pick (l ++ tl) (a ++ (b ++ tl)) := by rw [← List.append_assoc]; exact h.t
theorem Pick.trans {a b c : SL} (h : Pick a b) (h' : Pick b c) : Pick a c := ⟨fun p hp => by
    obtain ⟨P, h1, h2⟩ := h.sub p hp
    obtain ⟨P', h3, h4⟩ := h'.sub _ h1
    exact ⟨P', h3, fun o ho => h2 o (h4 o ho)⟩, fun nd => h.nd (h'.nd nd)⟩
theorem Pick.left {l tl : SL} : Pick l (l ++ tl) := ⟨fun p hp => ⟨p.2, List.mem_append_left _ hp, fun _ h => h⟩, fun nd => by rw [List.map_append, List.nodup_append] at nd; exact nd.1⟩
theorem Pick.perm {a b : SL} (h : a.Perm b) : Pick a b := ⟨fun p hp => ⟨p.2, h.mem_iff.mp hp, fun _ h => h⟩, fun nd => (h.map (·.1)).nodup_iff.mpr nd⟩
theorem Pick.drop {l tl : SL} : Pick tl (l ++ tl) := ⟨fun p hp => ⟨p.2, List.mem_append_right _ hp, fun _ h => h⟩, fun nd => by rw [List.map_append, List.nodup_append] at nd; exact nd.2.1⟩
theorem StS.pick {h₀ : Heap} {L : Addr} {xm : XM} {h : Heap} (S : StS h₀ L xm kp f n h) {n' : SL} (hp : Pick n' n) : StS h₀ L xm kp f n' h := S.sub hp.sub (hp.nd S.nd)
theorem g_to {ss : List Stmt} (f' : SF) (n' : SL) (hp : Pick n' n) (k : G C kp f' n' Q ss) (e : (f'.map (·.1)).map (fun k => lkS k f') = (f'.map (·.1)).map fun k => lkS k f) : G C kp f n Q ss :=
  .mk fun h t S => k.run h t ((S.frame e).pick hp)
end
end
section
open PySem PySem.W PySem.Calls PyProof PyProof.Rows
section
variable {w : World} {cs : Scope} {C : Cx w cs} {kp : List (Addr × Obj)} {f : SF} {n : SL} {Q : Flow → Shared → Prop} {x : Str} {pos p2 : Pos} {rest : List Stmt} {α : Type}
def WPost (C : Cx w cs) (kp : List (Addr × Obj)) (J : Nat → α → Prop) (fr : α → SF) (ow : α → SL) (i : Nat) (Q : Flow → Shared → Prop) (fl : Flow) (s' : Shared) : Prop :=
  match fl with
  | .ret v => Q (.ret v) s'
  | .brk => Q .next s'
  | _ => ∃ h t i' a, s' = C.at h t ∧ C.St kp (fr a) (ow a) h ∧ i' < i ∧ J i' a
theorem g_wnext {J : Nat → α → Prop} {fr : α → SF} {ow : α → SL} {i : Nat} {Q' : Flow → Shared → Prop} (hq : ∀ fl s', WPost C kp J fr ow i Q fl s' → Q' fl s') (i' : Nat) (a : α) (hp : Pick (ow a) n) (hi : i' < i) (hj : J i' a) (e : ((fr a).map (·.1)).map (fun k => lkS k (fr a)) = ((fr a).map (·.1)).map fun k => lkS k f) :
    G C kp f n Q' [] := .mk fun h t S => wpAny_execs_nil (hq _ _ ⟨h, t, i', a, rfl, (S.frame e).pick hp, hi, hj⟩)
theorem g_while {test : Expr} {body : List Stmt} (J : Nat → α → Prop) (fr : α → SF) (ow : α → SL) (n₀ : Nat) (a₀ : α) (hj : J n₀ a₀)
    (turn : ∀ i a, J i a → ∃ p, Tst C kp (fr a) (ow a) test p ∧ (p → ∀ Q', (∀ fl s', WPost C kp J fr ow i (Seq C Q rest) fl s' → Q' fl s') → G C kp (fr a) (ow a) Q' body) ∧ (¬ p → G C kp (fr a) (ow a) Q rest)) (ef : autoParam (fr a₀ = f) tR) (en : autoParam (ow a₀ = n) tR) :
    G C kp f n Q (.While test body [] pos :: rest) := .mk fun h t S => by
  subst ef en
  refine wpAny_execs_cons ?_
  refine wpAny_While (codeAny_whileLoop (fun i s' => ∃ h t a, s' = C.at h t ∧ C.St kp (fr a) (ow a) h ∧ J i a) ?_ n₀ ⟨h, t, a₀, rfl, S, hj⟩)
  rintro i s' ⟨h, t, a, rfl, S, hj⟩
  obtain ⟨p, d, k1, k2⟩ := turn i a hj
  refine wpAny_mono (d _ h t S fun b h' t' hb S' => ?_) (fun _ _ x => x) C.hE
  cases b with
  | false =>
    simp only [Bool.false_eq_true, if_false]
    exact wpAny_execs_nil ((k2 (fun hp => Bool.false_ne_true (hb.mpr hp))).run h' t' S')
  | true =>
    simp only [if_true]
    refine wpAny_mono ((k1 (hb.mp rfl) (WPost C kp J fr ow i (Seq C Q rest)) fun _ _ q => q).run h' t' S') (fun fl s₃ q => ?_) C.hE
    cases fl with
    | ret v => exact q
    | brk => exact q
    | next => obtain ⟨h3, t3, i', a', rfl, S3, hi, hj3⟩ := q; exact ⟨i', hi, h3, t3, a', rfl, S3, hj3⟩
    | cont => obtain ⟨h3, t3, i', a', rfl, S3, hi, hj3⟩ := q; exact ⟨i', hi, h3, t3, a', rfl, S3, hj3⟩
def LPost (C : Cx w cs) (kp : List (Addr × Obj)) (J : Nat → α → Prop) (fr : Nat → α → SF) (ow : Nat → α → SL) (i : Nat) (Q : Flow → Shared → Prop) (fl : Flow) (s' : Shared) : Prop :=
  match fl with
  | .ret v => Q (.ret v) s'
  | .brk => Q .next s'
  | _ => ∃ h t a, s' = C.at h t ∧ C.St kp (fr i a) (ow i a) h ∧ J i a
theorem g_lnext {J : Nat → α → Prop} {fr : Nat → α → SF} {ow : Nat → α → SL} {i : Nat} {Q' : Flow → Shared → Prop} (hq : ∀ fl s', LPost C kp J fr ow i Q fl s' → Q' fl s') (a : α) (hp : Pick (ow i a) n) (hj : J i a) (e : ((fr i a).map (·.1)).map (fun k => lkS k (fr i a)) = ((fr i a).map (·.1)).map fun k => lkS k f) :
    G C kp f n Q' [] := .mk fun h t S => wpAny_execs_nil (hq _ _ ⟨h, t, a, rfl, (S.frame e).pick hp, hj⟩)
theorem g_lcont {J : Nat → α → Prop} {fr : Nat → α → SF} {ow : Nat → α → SL} {i : Nat} {Q' : Flow → Shared → Prop} (hq : ∀ fl s', LPost C kp J fr ow i Q fl s' → Q' fl s') (a : α) (hp : Pick (ow i a) n) (hj : J i a) (e : ((fr i a).map (·.1)).map (fun k => lkS k (fr i a)) = ((fr i a).map (·.1)).map fun k => lkS k f) :
    G C kp f n (Seq C Q' rest) (.Continue pos :: []) := g_cont fun h t S => hq .cont _ ⟨h, t, a, rfl, (S.frame e).pick hp, hj⟩
theorem StS.less {h₀ : Heap} {L : Addr} {xm : XM} {kp' : List (Addr × Obj)} {h : Heap} (S : StS h₀ L xm kp f n h) (hs : ∀ p ∈ kp', p ∈ kp) : StS h₀ L xm kp' f n h := by
  obtain ⟨nw, N, K⟩ := S.nw
  exact ⟨S.fr, ⟨nw, fun p hp => N p (by
    rcases List.mem_append.mp hp with hp | hp
    · exact List.mem_append_left _ hp
    · exact List.mem_append_right _ (hs p hp)), K⟩, S.nd, fun p hp => S.off p (hs p hp)⟩
inductive LpI (J : α → Prop) (fr : α → SF) (ow : α → SL) (kp : List (Addr × Obj)) (m : Str → Option Value) (news : List (Addr × Obj)) : Prop
  | mk (a : α) (nw : List (Addr × Obj)) (hj : J a) (R : FrR none (fr a) m) (e : news = nw ++ kp) (K : Conc (ow a) nw) (nd : ((ow a).map (·.1)).Nodup) (off : ∀ p ∈ kp, p.1 ∉ (ow a).map (·.1))
theorem mem_mid' {a b c : List (Addr × Obj)} {p : Addr × Obj} (h : p ∈ a ++ (b ++ c)) : p ∈ b ++ (a ++ c) := by
  rcases List.mem_append.mp h with h | h
  · exact List.mem_append_right _ (List.mem_append_left _ h)
  · exact (List.mem_append.mp h).elim (fun h => List.mem_append_left _ h) fun h => List.mem_append_right _ (List.mem_append_right _ h)
theorem loop_in {h₀ h : Heap} {L : Addr} {fp wr : List Addr} {own nw : List (Addr × Obj)} {m : Str → Option Value} (hfw : ∀ b ∈ fp, b ∈ wr ∨ b ∈ kp.map (·.1) ∨ ∃ o, h₀.get? b = some o) (R : FrR none f m) (K : Conc n nw) (nd : (n.map (·.1)).Nodup) (off : ∀ p ∈ kp, p.1 ∉ n.map (·.1))
    (ha : ∀ p ∈ nw ++ kp, p.1 ∉ wr) (hofp : ∀ p ∈ own, p.1 ∈ fp) (F : Fr h₀ L h m) (N : News h₀ L h (own ++ (nw ++ kp))) : StS h₀ L none (own ++ kp) f n h :=
  .mk' F R (fun p hp => N p (mem_mid' hp)) K nd fun p hp hq => (List.mem_append.mp hp).elim (fun hp => by
    rw [K.addrs] at hq
    obtain ⟨q, hq, e⟩ := List.mem_map.mp hq
    have z := N q (List.mem_append_right _ (List.mem_append_left _ hq))
    rcases hfw _ (hofp p hp) with h1 | h1 | h1
    · exact ha _ (List.mem_append_left _ hq) (e ▸ h1)
    · obtain ⟨q', hq', e'⟩ := List.mem_map.mp h1
      exact off q' hq' (e' ▸ K.addrs ▸ List.mem_map.mpr ⟨q, hq, e⟩)
    · obtain ⟨o', h1⟩ := h1
      rw [← e, z.2.2] at h1; cases h1) fun hp => off p hp hq
inductive OutI (h₀ : Heap) (L : Addr) (wr : List Addr) (own kp : List (Addr × Obj)) (f : SF) (n : SL) (h : Heap) : Prop
  | mk (m : Str → Option Value) (nw : List (Addr × Obj)) (F : Fr h₀ L h m) (R : FrR none f m) (N : News h₀ L h (own ++ (nw ++ kp))) (K : Conc n nw) (hw : ∀ p ∈ nw ++ kp, p.1 ∉ wr)
theorem loop_out {h₀ h : Heap} {L : Addr} {wr : List Addr} {own : List (Addr × Obj)} (S : StS h₀ L none (own ++ kp) f n h) (hk : ∀ p ∈ kp, p.1 ∉ wr) (hown : ∀ b ∈ wr, ∃ o, (b, o) ∈ own) : OutI h₀ L wr own kp f n h := by
  obtain ⟨m, F, R⟩ := S.fr
  obtain ⟨nw, N, K⟩ := S.nw
  exact ⟨m, nw, F, R, fun p hp => N p (mem_mid' hp), K, fun p hp hb => (List.mem_append.mp hp).elim (fun hp => by
    obtain ⟨o, ho⟩ := hown _ hb
    exact S.off _ (List.mem_append_left _ ho) (K.addrs ▸ List.mem_map.mpr ⟨p, hp, rfl⟩)) fun hp => hk p hp hb⟩
theorem loopV_mk {M : World} {A : Around} {h₀ : Heap} {env : Env} {body : List Stmt} {E : Value → Shared → Prop} {s₂ : Shared} {I : Addr} {fp wr : List Addr} {k : Nat} {P : Nat → Value → Prop} {St : Nat → Heap → Prop} {m : Str → Option Value} {news : List (Addr × Obj)} (J : Nat → (Str → Option Value) → List (Addr × Obj) → Prop)
    (W : Walks pw M A I fp wr k P St) (hLf : env.locals ∉ fp) (hwr : ∀ b ∈ wr, h₀.get? b = none) (hnw : ∀ p ∈ news, p.1 ∉ wr) (hst : St 0 s₂.heap) (F : Fr h₀ env.locals s₂.heap m) (N : News h₀ env.locals s₂.heap news) (hj : J 0 m news)
    (turn : ∀ i v m₁ news₁ h tk own, i < k → P i v → J i m₁ news₁ → (∀ p ∈ news₁, p.1 ∉ wr) → (∀ p ∈ own, p.1 ∈ fp) → (∀ b ∈ fp, h₀.get? b = none → ∀ o, h.get? b = some o → (b, o) ∈ own) → St (i + 1) h →
      Fr h₀ env.locals h (fun y => if y = x then some v else m₁ y) → News h₀ env.locals h (own ++ news₁) →
      wpAny (model pw M) A (execs body env) (LoopStepV h₀ env.locals wr own (J (i + 1)) { s₂ with heap := h, toks := tk } (fun v s' => Q (.ret v) s') fun s' => Q .next s') E { s₂ with heap := h, toks := tk })
    (done : ∀ h' tk m' news', Fr h₀ env.locals h' m' → News h₀ env.locals h' news' → J k m' news' → Q .next { s₂ with heap := h', toks := tk }) : LoopAtV pw M A h₀ env x body Q E (.ref I) s₂ :=
  ⟨I, fp, wr, k, P, St, m, news, J, rfl, W, hLf, hwr, hnw, hst, F, N, hj, fun i v m₁ news₁ s₁ own hs hi hP hJ a b _ d st F₁ N₁ => (by obtain ⟨h, tk, rfl⟩ := hs; exact turn i v m₁ news₁ h tk own hi hP hJ a b d st F₁ N₁), fun h' tk m' news' F N _ hJ => done h' tk m' news' F N hJ⟩
theorem loopS {body : List Stmt} {I : Addr} {fp wr : List Addr} {k : Nat} {P : Nat → Value → Prop} {St : Nat → Heap → Prop} {h : Heap} {t : Nat} (J : Nat → α → Prop) (fr : Nat → α → SF) (ow : Nat → α → SL) (V : Nat → SV) (a₀ : α)
    (W : Walks pw w C.A I fp wr k P St) (hLf : C.L ∉ fp) (hwr : ∀ b ∈ wr, C.s.heap.get? b = none) (hfw : ∀ b ∈ fp, b ∈ wr ∨ b ∈ kp.map (·.1) ∨ ∃ o, C.s.heap.get? b = some o)
    (hnw : ∀ b ∈ wr, b ∉ (ow 0 a₀).map (·.1) ∧ b ∉ kp.map (·.1)) (hall : ∀ i h, St i h → ∀ b ∈ wr, ∃ o, h.get? b = some o) (hst : St 0 h) (S : C.St kp (fr 0 a₀) (ow 0 a₀) h) (hj : J 0 a₀) (hV : ∀ i v, i < k → P i v → (V i).Is v)
    (turn : ∀ i a own, i < k → J i a → ∀ Q', (∀ fl s', LPost C (own ++ kp) J fr ow (i + 1) Q fl s' → Q' fl s') → G C (own ++ kp) ((x, V i) :: fr i a) (ow i a) Q' body)
    (done : ∀ a h t, J k a → C.St kp (fr k a) (ow k a) h → Q .next (C.at h t)) :
    LoopAtV pw w C.A C.s.heap C.env x body Q C.E (.ref I) (C.at h t) := by
  obtain ⟨m, F, R⟩ := S.fr
  obtain ⟨nw, N, K⟩ := S.nw
  have hk : ∀ p ∈ kp, p.1 ∉ wr := fun p hp hb => (hnw p.1 hb).2 (List.mem_map.mpr ⟨p, hp, rfl⟩)
  refine loopV_mk (fun i => LpI (J i) (fr i) (ow i) kp) W hLf hwr (fun p hp hb => (List.mem_append.mp hp).elim (fun hp => (hnw p.1 hb).1 (K.addrs ▸ List.mem_map.mpr ⟨p, hp, rfl⟩)) fun hp => hk p hp hb) hst F N ⟨a₀, nw, hj, R, rfl, K, S.nd, S.off⟩ ?_ fun h' tk m' news' F' N' hJ => ?_
  · intro i v m₁ news₁ h tk own hi hP hJ ha hofp hfp hst F N
    refine hide fun X kX => ?_
    obtain ⟨a, nw, hj, R, rfl, K, nd, off⟩ := hJ
    refine kX ?_
    have hown : ∀ b ∈ wr, ∃ o, (b, o) ∈ own := fun b hb => (hall _ _ hst _ hb).elim fun o ho => ⟨o, hfp _ (W.sub _ hb) (hwr _ hb) o ho⟩
    refine wpAny_mono ((turn i a own hi hj (LPost C (own ++ kp) J fr ow (i + 1) Q) fun _ _ q => q).run h tk (loop_in hfw (R.set (hV i v hi hP)) K nd off ha hofp F N)) (fun fl s' q => ?_) fun _ _ e => e
    have fin : (∃ h' t b, s' = C.at h' t ∧ C.St (own ++ kp) (fr (i + 1) b) (ow (i + 1) b) h' ∧ J (i + 1) b) → LoopStepU C.s.heap C.L wr own (LpI (J (i + 1)) (fr (i + 1)) (ow (i + 1)) kp) (C.at h tk) .next s' := fun ⟨h', t', b, e, S', hj'⟩ => by
      obtain ⟨m', nw', F', R', N', K', hw⟩ := loop_out S' hk hown
      exact e ▸ LoopStepU.intro (s₁ := C.at h tk) F' N' hw ⟨b, nw', hj', R', rfl, K', S'.nd, fun p hp => S'.off p (List.mem_append_right _ hp)⟩
    exact match fl, q with
      | .ret v, q => .ret q
      | .brk, q => .brk q
      | .next, q => .next (fin q)
      | .cont, q => .cont (fin q)
  · obtain ⟨a, nw, hj, R, rfl, K, nd, off⟩ := hJ
    exact done a h' tk hj (.mk' F' R N' K nd off)
theorem StS.new {h₀ : Heap} {L : Addr} {xm : XM} {h : Heap} (S : StS h₀ L xm kp f n h) : h.objs.size ∉ n.map (·.1) ∧ h.objs.size ∉ kp.map (·.1) ∧ h₀.get? h.objs.size = none ∧ L ≠ h.objs.size := by
  obtain ⟨m, F, R⟩ := S.fr
  obtain ⟨nw, N, K⟩ := S.nw
  refine ⟨fun hb => ?_, fun hb => ?_, next_is_new F, fun e => absurd F.ns.lt (e ▸ Nat.lt_irrefl _)⟩
  · rw [K.addrs] at hb
    obtain ⟨q, hq, e⟩ := List.mem_map.mp hb
    exact absurd (Heap.lt_size (N _ (List.mem_append_left _ hq)).1) (by rw [e]; exact Nat.lt_irrefl _)
  · obtain ⟨q, hq, e⟩ := List.mem_map.mp hb
    exact absurd (Heap.lt_size (N _ (List.mem_append_right _ hq)).1) (by rw [e]; exact Nat.lt_irrefl _)
theorem StS.push {h₀ : Heap} {L : Addr} {xm : XM} {h : Heap} (S : StS h₀ L xm kp f n h) (o : Obj) : StS h₀ L xm kp f n (h.push o) := by
  obtain ⟨m, F, R⟩ := S.fr
  obtain ⟨nw, N, K⟩ := S.nw
  exact .mk' (F.push _) R (fun p hp => ⟨Heap.get?_push_of_some _ (N p hp).1, (N p hp).2⟩) K S.nd S.off
theorem par_ok {cs : Scope} {L : Addr} (h : cs.kind = .function) : (cs.kind == .class || (cs.kind == .module && L != mainGlobals)) = false := by rw [h]; rfl
theorem range_loop {body : List Stmt} {h : Heap} {t : Nat} {r : Addr} {a b c : Int} {k : Nat} {t₁ t₂ t₃ : Tok} (V : Nat → Int) (hV : ∀ i : Nat, a + i * c = V i) (J : Nat → α → Prop) (fr : Nat → α → SF) (ow : Nat → α → SL) (a₀ : α)
    (hr : IsRange h r a b c t₁ t₂ t₃) (hsm : Builtin.Range.small a b c = true) (hk : Builtin.Range.rangeSize a b c = (k : Int)) (S : C.St kp (fr 0 a₀) (ow 0 a₀) h) (hj : J 0 a₀)
    (turn : ∀ i d own, i < k → J i d → ∀ Q', (∀ fl s', LPost C (own ++ kp) J fr ow (i + 1) Q fl s' → Q' fl s') → G C (own ++ kp) ((x, .num (V i)) :: fr i d) (ow i d) Q' body)
    (done : ∀ d h t, J k d → C.St kp (fr k d) (ow k d) h → Q .next (C.at h t)) :
    wpAny (model pw w) C.A (pyIter (.ref r)) (fun it s₂ => LoopAtV pw w C.A C.s.heap C.env x body Q C.E it s₂) C.E (C.at h t) := by
  refine wpAny_pyIter_range (s := C.at h t) hr hsm ?_
  refine loopS (Q := Q) J fr ow (fun i => .num (V i)) a₀ (Walks.range C.hh _ a c k).bound ?_ ?_ (fun b hb => .inl hb) ?_ (fun i h st b hb => ?_) ?_ (S.push _) hj (fun i v hi hv => ?_) turn done
  · intro hb
    exact S.new.2.2.2 (List.mem_singleton.mp hb)
  · intro b hb
    rw [List.mem_singleton.mp hb]
    exact S.new.2.2.1
  · intro b hb
    rw [List.mem_singleton.mp hb]
    exact ⟨S.new.1, S.new.2.1⟩
  · rw [List.mem_singleton.mp hb]
    exact ⟨_, st⟩
  · rw [hk]
    dsimp only
    unfold IsRangeIter
    rw [Heap.get?_push_size _ (by rfl)]
    simp
  · obtain ⟨_, u, e⟩ := hv
    exact ⟨u, by rw [e, hV]⟩
end
end
section
open PySem PySem.W PySem.Calls PyProof PyProof.Rows
noncomputable def AllIs : List SV → List Value → Prop
  | [], [] => True
  | a :: as, v :: vs => a.Is v ∧ AllIs as vs
  | _, _ => False
theorem AllIs.length : ∀ {as : List SV} {vs : List Value}, AllIs as vs → vs.length = as.length
  | [], [], _ => rfl
  | _ :: _, _ :: _, h => congrArg (· + 1) (AllIs.length h.2)
  | [], _ :: _, h => h.elim
  | _ :: _, [], h => h.elim
inductive GetI (vs : List Value) (i : Nat) (a : SV) : Prop
  | mk (v : Value) (hv : vs[i]? = some v) (ha : a.Is v)
theorem AllIs.get : ∀ {as : List SV} {vs : List Value} {i : Nat} {a : SV}, AllIs as vs → as[i]? = some a → GetI vs i a
  | a :: as, v :: vs, 0, b, h, e => by cases e; exact ⟨v, rfl, h.1⟩
  | a :: as, v :: vs, i + 1, b, h, e => match AllIs.get (as := as) (vs := vs) (i := i) h.2 e with | ⟨u, hu, ha⟩ => ⟨u, hu, ha⟩
  | [], _, _, _, _, e => by cases e
  | _ :: _, [], _, _, h, _ => h.elim
inductive oTup (as : List SV) (o : Obj) : Prop
  | mk (vs : List Value) (ha : AllIs as vs) (e : o = { cls := .type "tuple", data := .seq vs.toArray 0 })
inductive oLst (as : List SV) (o : Obj) : Prop
  | mk (vs : List Value) (k : Nat) (ha : AllIs as vs) (e : o = PySem.W.listOf vs.toArray k)
section
variable {w : World} {cs : Scope} {md : Bool} {C : CxU w cs md} {kp : List (Addr × Obj)} {f : SF} {n : SL} {Q : Flow → Shared → Prop} {x : Str} {pos p2 p3 p4 : Pos} {rest : List Stmt} {α : Type}
theorem StS.cons {h₀ h : Heap} {L : Addr} {xm : XM} {D : Addr} {P : Obj → Prop} {o : Obj} {m : Str → Option Value} {nw : List (Addr × Obj)} (F : Fr h₀ L h m) (R : FrR xm f m) (N : News h₀ L h ((D, o) :: (nw ++ kp))) (K : Conc n nw) (nd : (n.map (·.1)).Nodup) (off : ∀ p ∈ kp, p.1 ∉ n.map (·.1)) (hP : P o) (fresh : ∀ p ∈ nw ++ kp, p.1 < D) : StS h₀ L xm kp f ((D, P) :: n) h :=
  .mk' F R (nw := (D, o) :: nw) N ⟨rfl, hP, K⟩ (by
    rw [List.map_cons]
    refine List.nodup_cons.mpr ⟨fun hb => ?_, nd⟩
    rw [K.addrs] at hb
    obtain ⟨q, hq, e⟩ := List.mem_map.mp hb
    exact absurd (fresh q (List.mem_append_left _ hq)) (by rw [e]; exact Nat.lt_irrefl _)) (fun p hp hb => by
    rcases List.mem_cons.mp hb with e | hb
    · exact absurd (fresh p (List.mem_append_right _ hp)) (by rw [e]; exact Nat.lt_irrefl _)
    · exact off p hp hb)
def EvL (C : CxU w cs md) (kp : List (Addr × Obj)) (f : SF) (n : SL) (es : List Expr) (R : List SV → SL → Prop) : Prop :=
  ∀ (Q : List Value → Shared → Prop) (pos : Pos) (h : Heap) (t : Nat), C.St kp f n h →
    (∀ vs as n' h' t', R as n' → AllIs as vs → vs.length = es.length → C.St kp f n' h' → Q vs (C.at h' t')) → wpAny (model pw w) C.A (spliced (backTo pos (starEach es C.env))) Q C.E (C.at h t)
noncomputable def noStars : List Expr → Bool
  | [] => true
  | e :: es => !isStar e && noStars es
noncomputable def evEs (cs : Scope) (f : SF) : List Expr → List Prop → Option (List SV × List Prop)
  | [], c => some ([], c)
  | e :: es, c => match evE cs f 30 e c with
    | some (a, c1) => match evEs cs f es c1 with
      | some (as, c2) => some (a :: as, c2)
      | none => none
    | none => none
theorem EvL.nil {R : List SV → SL → Prop} (k : R [] n) : EvL C kp f n [] R := fun _ _ _ _ S q => args_nil (q [] [] n _ _ k trivial rfl S)
theorem EvL.cons {e : Expr} {es : List Expr} {R : List SV → SL → Prop} (d : EvX C kp f n e (fun a n1 => EvL C kp f n1 es (fun as n2 => R (a :: as) n2))) (hs : autoParam (isStar e = false) tR) : EvL C kp f n (e :: es) R := fun _ _ _ _ S q =>
  args_cons (d _ _ _ S fun v a n1 _ _ hr ha S1 => hr _ _ _ _ S1 fun vs as n2 _ _ hr2 has hl S2 => q (v :: vs) (a :: as) n2 _ _ hr2 ⟨ha, has⟩ (congrArg (· + 1) hl) S2) (star_not hs)
noncomputable def few (es : List Expr) : Bool := Nat.ble es.length 16
theorem few_ok {α : Type} {l : List α} {es : List Expr} (h : l.length = es.length) (hl : few es = true) : l.length ≤ sizeLine := by
  rw [h, sizeLine_eq]
  exact Nat.le_trans (Nat.le_of_ble_eq_true hl) (by decide)
theorem EvX.tuple {es : List Expr} {k : Nat} {R : SV → SL → Prop} (d : EvL C kp f n es (fun as n' => ∀ D, R (.val (.ref D)) ((D, oTup as) :: n'))) (hl : autoParam (few es = true) tR) : EvX C kp f n (.Tuple es k pos) R := fun _ _ _ S q =>
  Tuple_ (d _ _ _ _ S fun vs as n1 h1 t1 hr has hlen S1 => by
    obtain ⟨m, F, R1⟩ := S1.fr
    obtain ⟨nw, N, K⟩ := S1.nw
    exact kup_newTuple (s := C.at h1 t1) F N (fun D h' F' N' fr => q _ _ _ h' t1 (hr D) rfl (.cons F' R1 N' K S1.nd S1.off ⟨vs, has, rfl⟩ fr)) (few_ok hlen hl))
theorem EvX.list {es : List Expr} {R : SV → SL → Prop} (d : EvL C kp f n es (fun as n' => ∀ D, R (.val (.ref D)) ((D, oLst as) :: n'))) (hl : autoParam (few es = true) tR) : EvX C kp f n (.List es pos) R := fun _ _ _ S q =>
  List_ (d _ _ _ _ S fun vs as n1 h1 t1 hr has hlen S1 => by
    obtain ⟨m, F, R1⟩ := S1.fr
    obtain ⟨nw, N, K⟩ := S1.nw
    exact newList_K (s := C.at h1 t1) F N (fun D h' F' N' fr => q _ _ _ h' t1 (hr D) rfl (.cons F' R1 N' K S1.nd S1.off ⟨vs, 0, has, rfl⟩ fr)) (few_ok hlen hl))
theorem ev_tup_item {vx : Expr} {i : Int} {c : Nat} {a : Addr} {as : List SV} {j : Nat} {b : SV} (h0 : Ev C kp f n vx (.val (.ref a))) (hm : (a, oTup as) ∈ n) (hlo : -(2 ^ 63) ≤ i) (hhi : i < 2 ^ 63) (hj : seqIndex? i as.length = some j) (hb : as[j]? = some b): Ev C kp f n (.Subscript vx (.Constant (.int i) c p2) pos) b := fun _ _ _ S q =>
  Subscript_ (h0 _ _ _ S fun _ h1 t1 e0 S1 => wpAny_Constant_int (by
    cases e0
    obtain ⟨o, g1, ⟨vs, g2, g3⟩, _⟩ := S1.at' hm
    obtain ⟨v, g4, g5⟩ := g2.get hb
    exact item_tupleT (l := vs) ⟨o, g1, by rw [g3], 0, by rw [g3]⟩ hlo hhi (by rw [g2.length]; exact hj) g4 (q v _ _ g5 S1) (sub_plain (i := .Constant (.int i) c p2) rfl _ _)))
theorem no_range {p : Params} : nsIn (Kx p) mainGlobals "range" = some none := by kernel_rfl
end
section
variable {w : World} {cs : Scope} {C : CxU w cs true} {kp : List (Addr × Obj)} {f : SF} {n : SL} {Q : Flow → Shared → Prop} {x : Str} {pos p2 p3 p4 : Pos} {rest : List Stmt} {α : Type}
theorem evEs_ok : ∀ (es : List Expr) (c c' : List Prop) (as : List SV), evEs cs f es c = some (as, c') → noStars es = true → AllP c' → AllP c ∧ ∀ R : List SV → SL → Prop, R as n → EvL C kp f n es R
  | [], c, c', as, h, _, hp => by
    cases h
    exact ⟨hp, fun R k => .nil k⟩
  | e :: es, c, c', as, h, hs, hp => by
    unfold noStars at hs
    rw [Bool.and_eq_true] at hs
    unfold evEs at h
    cases h1 : evE cs f 30 e c with
    | none => rw [h1] at h; cases h
    | some o =>
      rw [h1] at h
      dsimp only at h
      cases h2 : evEs cs f es o.2 with
      | none => rw [h2] at h; cases h
      | some o2 =>
        rw [h2] at h
        cases h
        obtain ⟨p1, d2⟩ := evEs_ok es _ _ _ h2 hs.2 hp
        obtain ⟨p0, d1⟩ := evE_ok (C := C) (kp := kp) (n := n) 30 e c _ _ h1 p1
        exact ⟨p0, fun R k => .cons (d1.x (d2 _ k)) (by simpa using hs.1)⟩
theorem EvL.v {es : List Expr} {as : List SV} {c : List Prop} {R : List SV → SL → Prop} (k : R as n) (h : autoParam (evEs cs f es [] = some (as, c)) tR) (hp : autoParam (AllP c) tT) (hs : autoParam (noStars es = true) tR) : EvL C kp f n es R := (evEs_ok es [] c as h hs hp).2 R k
theorem g_for1 {e : Expr} {body : List Stmt} {k : Nat} {c : List Prop} (J : Nat → α → Prop) (fr : Nat → α → SF) (ow : Nat → α → SL) (a₀ : α) (hj : J 0 a₀)
    (turn : ∀ i b own, i < k → J i b → ∀ Q', (∀ fl s', LPost C (own ++ kp) J fr ow (i + 1) (Seq C Q rest) fl s' → Q' fl s') → G C (own ++ kp) ((x, .num i) :: fr i b) (ow i b) Q' body)
    (done : ∀ b, J k b → G C kp (fr k b) (ow k b) Q rest) (d : autoParam (evE cs (fr 0 a₀) 30 e [] = some (.num k, c)) tR) (hk : (k : Int) < 2 ^ 62 := by omega) (hp : autoParam (AllP c) tT) (hx : autoParam (isLoc cs x = true) tR) (hgl : autoParam (isGlo cs "range" = true) tR) (hs : autoParam (isStar e = false) tR) (ef : autoParam (fr 0 a₀ = f) tR) (en : autoParam (ow 0 a₀ = n) tR) :
    G C kp f n Q (.For (.Name x p2) (.Call (.Name "range" p3) [e] [] p4) body [] pos :: rest) := .mk fun h t S => by
  subst ef en
  refine wpAny_execs_cons (For_invV C.s.heap (loc_of hx).1 (par_ok C.hk) (Call_ (ev_B no_range rfl (by decide) hgl (by decide) _ _ _ S fun _ _ _ e0 S0 => ?_) (by cases e <;> rfl)) (fun _ => rfl) C.hE)
  cases e0
  refine PySem.Pv.callWith_type1 (args_cons (ev d hp _ _ _ S0 fun _ h1 t1 ⟨_, e1⟩ S1 => args_nil ?_) (star_not hs)) (star_not hs) rfl
  subst e1
  refine call_range_1 ?_
  refine range_loop (a := 0) (b := k) (c := 1) (h := h1.push _) (Q := Seq C Q rest) (fun i => i) (fun i => by rw [Int.mul_one, Int.zero_add]) J fr ow a₀ (IsRange.new ..) (small_one (by omega) (by omega) (by omega) (by omega)) (by rw [rangeSize_nat]; omega) (S1.push _) hj turn (fun b h t hj S => (done b hj).run h t S)
theorem g_for2 {e1 e2 : Expr} {body : List Stmt} {a b : Int} {k : Nat} {c : List Prop} (J : Nat → α → Prop) (fr : Nat → α → SF) (ow : Nat → α → SL) (a₀ : α) (hj : J 0 a₀)
    (turn : ∀ i b own, i < k → J i b → ∀ Q', (∀ fl s', LPost C (own ++ kp) J fr ow (i + 1) (Seq C Q rest) fl s' → Q' fl s') → G C (own ++ kp) ((x, .num (a + i)) :: fr i b) (ow i b) Q' body)
    (done : ∀ b, J k b → G C kp (fr k b) (ow k b) Q rest) (hsm : Builtin.Range.small a b 1 = true) (hk : Builtin.Range.rangeSize a b 1 = (k : Int)) (d : autoParam (evEs cs (fr 0 a₀) [e1, e2] [] = some ([.num a, .num b], c)) tR) (hp : autoParam (AllP c) tT) (hx : autoParam (isLoc cs x = true) tR) (hgl : autoParam (isGlo cs "range" = true) tR) (hs : autoParam (noStars [e1, e2] = true) tR) (ef : autoParam (fr 0 a₀ = f) tR) (en : autoParam (ow 0 a₀ = n) tR) :
    G C kp f n Q (.For (.Name x p2) (.Call (.Name "range" p3) [e1, e2] [] p4) body [] pos :: rest) := .mk fun h t S => by
  subst ef en
  have hs' := hs
  unfold noStars noStars at hs'
  have s1 : isStar e1 = false := by revert hs'; cases isStar e1 <;> simp
  have s2 : isStar e2 = false := by revert hs'; cases isStar e2 <;> simp
  refine wpAny_execs_cons (For_invV C.s.heap (loc_of hx).1 (par_ok C.hk) (Call_ (ev_B no_range rfl (by decide) hgl (by decide) _ _ _ S fun _ _ _ e0 S0 => ?_) (by cases e1 <;> rfl)) (fun _ => rfl) C.hE)
  cases e0
  refine PySem.Pv.callWith_type1 (EvL.v (C := C) (kp := kp) (n := ow 0 a₀) (R := fun as n' => as = [.num a, .num b] ∧ n' = ow 0 a₀) ⟨rfl, rfl⟩ d hp hs _ _ _ _ S0 fun vs as n' h1 t1 has0 has _ S1 => ?_) (star_not s1) (by rw [star_not s2]; rfl)
  obtain ⟨rfl, rfl⟩ := has0
  obtain _ | ⟨v1, _ | ⟨v2, _ | ⟨v3, vs⟩⟩⟩ := vs
  · exact has.elim
  · exact has.2.elim
  · obtain ⟨⟨u1, rfl⟩, ⟨u2, rfl⟩, _⟩ := has
    refine call_range_2 ?_
    exact range_loop (a := a) (b := b) (c := 1) (h := h1.push _) (Q := Seq C Q rest) (fun i => a + i) (fun i => by rw [Int.mul_one]) J fr ow a₀ (IsRange.new ..) hsm hk (S1.push _) hj turn (fun b h t hj S => (done b hj).run h t S)
  · exact has.2.2.elim
end
noncomputable def AllF (m : Str → Option Value) : SF → Prop
  | [] => True
  | p :: f => (∃ v, m p.1 = some v ∧ p.2.Is v) ∧ AllF m f
theorem frr_at {m : Str → Option Value} {y : Str} {b : SV} : ∀ {f : SF}, AllF m f → lkS y f = some b → ∃ v, m y = some v ∧ b.Is v
  | [], _, h => nomatch h
  | (k, a) :: f, h, hb => by
    unfold lkS at hb
    by_cases q : y = k
    · rw [if_pos q] at hb; cases hb; rw [q]; exact h.1
    · rw [if_neg q] at hb; exact frr_at h.2 hb
theorem frr_of {m : Str → Option Value} {f : SF} (h : AllF m f) : FrR none f m := ⟨fun _ _ hb => frr_at h hb, fun _ e => nomatch e⟩
def SEnd {w : World} {cs : Scope} (C : Cx w cs) (Rp : Heap → Value → Heap → Prop) (Q : Flow → Shared → Prop) : Prop := ∀ v h t kp f n, C.St kp f n h → Rp C.s.heap v h → Q (.ret v) (C.at h t) ∧ (v = .none → Q .next (C.at h t))
theorem send_of {w : World} {cs : Scope} {C : Cx w cs} {Rp : Heap → Value → Heap → Prop} : SEnd C Rp (fun fl s' => PEnd Rp C.s (match fl with | .ret v => v | _ => .none) s') := fun v h t kp f n S hr => by
  obtain ⟨m, F, R⟩ := S.fr
  exact ⟨PEnd.intro F hr, fun e => by subst e; exact PEnd.intro F hr⟩
section
variable {w : World} {D U : Nat} {P : Heap → Prop} {Rp : Heap → Value → Heap → Prop} {name qual : Str} {params : Arguments} {body : List Stmt} {scope : Scope} {dV kV doc pm cdv ct oc : Value} {an od : Option Addr} {osl : Array (Option Value)} {f : Addr} {vs : List Value} {kw : List (Str × Value)} {binds : List (Str × Value)} {f0 : SF}
theorem pur_S (hD : 1 ≤ D)
    (ho : (Kx w.params).lookup f = some ⟨oc, od, .func (fnOf name qual params body scope dV kV doc pm an cdv ct), osl⟩) (hcd : codeIn (Kx w.params) cdv qual = true)
    (hbind : ∀ s : Shared, (Kx w.params).In s.heap → BindsTo s (fnOf name qual params body scope dV kV doc pm an cdv ct) ⟨vs, kw⟩ binds) (hloc : ∀ y ∈ binds, scope.names.lookup y.1 = some .local)
    (hf0 : AllF (fun y => binds.reverse.lookup y) f0)
    (h : ∀ C : Cx w scope, C.A.depth + D < recursionLimit + 1 → C.A.units + U < cLine + 3 → P C.s.heap → ∀ Q, SEnd C Rp Q → G C [] f0 [] Q body)
    (hco : scope.isCoroutine = false) (hgen : scope.isGenerator = false) (hk : scope.kind = .function)
    (hcell : ∀ x ∈ scope.names, x.2 ≠ .cell) : PurK w f vs kw D U P Rp := by
  refine pur_intro hD ho hcd hbind hloc (fun dp un gd env outer base mean mg mb s E L' h₁ tk hd hu hP F N B X T => ?_) hco hgen hk hcell
  refine (h { A := (topE dp un gd env outer).deeper (envOf qual scope L' f cdv), E := _, s := s, lo := L', fl := L', xf := fun _ => none, ql := _, fu := some f, ccd := cdv, cl := [], hh := rfl, hk := hk, hP := fun _ => ?e, site := ⟨_, _, _, _, _, _, _, rfl, rfl, hk, B, X, T⟩ } ?_ ?_ hP _ send_of).run h₁ tk ⟨⟨_, F, frr_of hf0⟩, ⟨[], N, trivial⟩, List.Pairwise.nil, fun _ h => nomatch h⟩
  case e => passes_own
  all_goals (simp only [Around.deeper]; omega)
end
end
section
open PySem PySem.W PySem.Calls PyProof PyProof.Rows
noncomputable def oEq (o o' : Obj) : Prop := o' = o
section
variable {w : World} {cs : Scope} {C : Cx w cs} {kp : List (Addr × Obj)} {f : SF} {n : SL} {Q : Flow → Shared → Prop} {x : Str} {pos p2 p3 p4 : Pos} {rest : List Stmt} {α : Type} {R : SV → SL → Prop}
inductive SetAtI (n : SL) (nw : List (Addr × Obj)) (i : Nat) (D : Addr) (P : Obj → Prop) : Prop
  | mk (pre : List (Addr × Obj)) (o : Obj) (post : List (Addr × Obj)) (e : nw = pre ++ (D, o) :: post) (hP : P o) (hK : ∀ o' (P' : Obj → Prop), P' o' → Conc (n.set i (D, P')) (pre ++ (D, o') :: post))
theorem Conc.setAt : ∀ {n : SL} {nw : List (Addr × Obj)} {i : Nat} {D : Addr} {P : Obj → Prop}, Conc n nw → n[i]? = some (D, P) → SetAtI n nw i D P
  | p :: n, q :: l, 0, D, P, h, e => by
    cases e
    obtain ⟨q1, q2⟩ := q
    obtain ⟨rfl, h2, h3⟩ := h
    exact ⟨[], q2, l, rfl, h2, fun o' P' ho => ⟨rfl, ho, h3⟩⟩
  | p :: n, q :: l, i + 1, D, P, h, e => by
    obtain ⟨pre, o, post, rfl, h1, h2⟩ := Conc.setAt (i := i) h.2.2 (by simpa using e)
    exact ⟨q :: pre, o, post, rfl, h1, fun o' P' ho => ⟨h.1, h.2.1, h2 o' P' ho⟩⟩
  | [], [], _, _, _, _, e => by simp at e
  | [], _ :: _, _, _, _, h, _ => h.elim
  | _ :: _, [], _, _, _, h, _ => h.elim
theorem set_fst (n : SL) (i : Nat) (D : Addr) (P P' : Obj → Prop) (e : n[i]? = some (D, P)) : (n.set i (D, P')).map (·.1) = n.map (·.1) := by
  rw [List.map_set]
  refine List.ext_getElem? fun j => ?_
  rw [List.getElem?_set]
  by_cases h : i = j
  · subst h
    rw [if_pos rfl, List.getElem?_map, e]
    split
    · rfl
    · rename_i h
      rw [List.length_map] at h
      exact absurd (List.getElem?_eq_some_iff.mp e).1 h
  · rw [if_neg h]
inductive OpenI (h₀ : Heap) (L : Addr) (xm : XM) (kp : List (Addr × Obj)) (f : SF) (n : SL) (h : Heap) (D : Addr) (P : Obj → Prop) (i : Nat) : Prop
  | mk (m : Str → Option Value) (news : List (Addr × Obj)) (o : Obj) (g : Obj → List (Addr × Obj)) (F : Fr h₀ L h m) (R : FrR xm f m) (N : News h₀ L h news) (hP : P o) (hm : (D, o) ∈ news) (U : UpdF D o news g) (V : ∀ o', Upd D o o' news (g o'))
    (close : ∀ (P' : Obj → Prop) o' h', P' o' → Fr h₀ L h' m → News h₀ L h' (g o') → StS h₀ L xm kp f (n.set i (D, P')) h')
theorem StS.open {h₀ h : Heap} {L D : Addr} {xm : XM} {P : Obj → Prop} {i : Nat} (S : StS h₀ L xm kp f n h) (e : n[i]? = some (D, P)) :
    OpenI h₀ L xm kp f n h D P i := by
  obtain ⟨m, F, R⟩ := S.fr
  obtain ⟨nw, N, K⟩ := S.nw
  obtain ⟨pre, o, post, rfl, hP, hK⟩ := K.setAt e
  have nd := S.nd
  rw [K.addrs, List.map_append, List.map_cons, List.nodup_append] at nd
  obtain ⟨_, nd2, nd3⟩ := nd
  have hDn : D ∈ n.map (·.1) := List.mem_map.mpr ⟨_, List.mem_of_getElem? e, rfl⟩
  have a : ∀ p ∈ pre, p.1 ≠ D := fun p hp => nd3 p.1 (List.mem_map.mpr ⟨p, hp, rfl⟩) D (.head _)
  have b : ∀ p ∈ post ++ kp, p.1 ≠ D := fun p hp q => by
    rcases List.mem_append.mp hp with hp | hp
    · exact (List.nodup_cons.mp nd2).1 (q ▸ List.mem_map.mpr ⟨p, hp, rfl⟩)
    · exact S.off p hp (q ▸ hDn)
  have ass : ∀ o' : Obj, (pre ++ (D, o') :: post) ++ kp = pre ++ (D, o') :: (post ++ kp) := fun o' => by rw [List.append_assoc]; rfl
  have U : ∀ (pre : List (Addr × Obj)), (∀ p ∈ pre, p.1 ≠ D) → UpdF D o (pre ++ (D, o) :: (post ++ kp)) fun o' => pre ++ (D, o') :: (post ++ kp) := fun pre => by
    induction pre with
    | nil => exact fun _ => .head b
    | cons p pre ih => exact fun a => .tail (a p (.head _)) (ih fun q hq => a q (.tail _ hq))
  have V : ∀ (o' : Obj) (pre : List (Addr × Obj)), (∀ p ∈ pre, p.1 ≠ D) → Upd D o o' (pre ++ (D, o) :: (post ++ kp)) (pre ++ (D, o') :: (post ++ kp)) := fun o' pre => by
    induction pre with
    | nil => exact fun _ => .head b
    | cons p pre ih => exact fun a => .tail (a p (.head _)) (ih fun q hq => a q (.tail _ hq))
  rw [ass] at N
  refine ⟨m, _, o, _, F, R, N, hP, List.mem_append_right _ (.head _), U pre a, fun o' => V o' pre a, fun P' o' h' hP' F' N' => ⟨⟨m, F', R⟩, ⟨_, ?_, hK o' P' hP'⟩, ?_, ?_⟩⟩
  · rw [ass]; exact N'
  · rw [set_fst n i D P P' e]; exact S.nd
  · rw [set_fst n i D P P' e]; exact S.off
noncomputable def attrIn (p : Params) (c : Addr) (name : Str) : Bool :=
  plainGet (Kx p) c name && hasDictIn (Kx p) c && (match findIn (Kx p) (.ref c) name with | some a => noGet (Kx p) a | none => false)
theorem ev_attr {y attr : Str} {X c d : Addr} {es : List DictEntry} {k : Nat} {v : Value} {a : SV} (hy : lkS y f = some (.val (.ref X))) (hx : (X, oEq (instObj c d)) ∈ n) (hd : (d, oEq (dictOf es k)) ∈ n) (hk : attrIn w.params c attr = true) (hl : getL attr es = some (some v)) (hv : handedIn v = true) (ha : a.Is v) (hloc : autoParam (isLoc cs y = true) tR) :
    Ev C kp f n (.Attribute (.Name y p2) attr pos) a := fun _ _ _ S q =>
  Attribute_Name_ (ev_name hy hloc _ _ _ S fun _ h1 t1 e0 S1 => by
    cases e0
    obtain ⟨m, F, R1⟩ := S1.fr
    obtain ⟨o1, g1, e1, _⟩ := S1.at' hx
    obtain ⟨o2, g2, e2, _⟩ := S1.at' hd
    cases e1; cases e2
    unfold attrIn at hk
    rw [Bool.and_eq_true, Bool.and_eq_true] at hk
    cases hf : findIn (Kx w.params) (.ref c) attr with
    | none => rw [hf] at hk; exact nomatch hk.2
    | some at' =>
      rw [hf] at hk
      exact get_own (s := C.at h1 t1) F (C_in C).1 ⟨g1, rfl, rfl, g2⟩ hk.1.1 hk.1.2 hf hk.2 hl hv (q _ _ _ ha S1))
noncomputable def nmOf (e : Expr) : Option {x : Str // ∃ p, e = .Name x p} := match e with
  | .Name x p => some ⟨x, p, rfl⟩
  | _ => none
noncomputable def namesOf : List Expr → Option (List Str)
  | [] => some []
  | e :: es => (nmOf e).bind fun x => (namesOf es).map (x.1 :: ·)
theorem names_cons {e : Expr} {es : List Expr} {xs : List Str} (h : namesOf (e :: es) = some xs) : ∃ x p xs', e = .Name x p ∧ xs = x :: xs' ∧ namesOf es = some xs' := by
  obtain ⟨x, h1, h2⟩ := Option.bind_eq_some_iff.mp (show (nmOf e).bind _ = _ from h)
  obtain ⟨ys, h3, h4⟩ := Option.map_eq_some_iff.mp h2
  obtain ⟨p, e1⟩ := x.2
  exact ⟨x.1, p, ys, e1, h4.symm, h3⟩
theorem st_order : ∀ {ts : List Expr} {xs : List Str} {as : List SV} {vs : List Value} {f : SF} {Q : Unit → Shared → Prop} {h : Heap} {t : Nat}, namesOf ts = some xs → xs.all (isLoc cs) = true → AllIs as vs → as.length = xs.length → C.St kp f n h →
    (∀ h' t', C.St kp ((xs.zip as).reverse ++ f) n h' → Q () (C.at h' t')) → wpAny (model pw w) C.A (assignInOrder ((assignEach ts C.env).map (·.2)) vs) Q C.E (C.at h t)
  | [], xs, as, vs, f, Q, h, t, hn, hl, ha, hlen, S, k => by
    cases hn
    cases as with
    | nil => exact assignInOrder_nil (k h t S)
    | cons _ _ => cases hlen
  | e :: ts, xs, as, vs, f, Q, h, t, hn, hl, ha, hlen, S, k => by
    obtain ⟨x, p, xs', rfl, rfl, hn'⟩ := names_cons hn
    rw [List.all_cons, Bool.and_eq_true] at hl
    obtain _ | ⟨a, as⟩ := as
    · cases hlen
    obtain _ | ⟨v, vs⟩ := vs
    · exact ha.elim
    refine assignInOrder_cons (assign_Name (st_store S ha.1 hl.1 fun h2 t2 S2 => st_order hn' hl.2 ha.2 (Nat.succ.inj hlen) S2 fun h3 t3 S3 => k h3 t3 ?_))
    rw [List.zip_cons_cons, List.reverse_cons, List.append_assoc]
    exact S3
theorem names_len {env : Env} : ∀ {ts : List Expr} {xs : List Str}, namesOf ts = some xs → (assignEach ts env).length = xs.length ∧ (assignEach ts env).findIdx? (·.1) = none
  | [], xs, h => by cases h; exact ⟨rfl, rfl⟩
  | e :: ts, xs, h => by
    obtain ⟨x, p, xs', rfl, rfl, h'⟩ := names_cons h
    obtain ⟨h1, h2⟩ := names_len (env := env) h'
    refine ⟨congrArg (· + 1) h1, ?_⟩
    show List.findIdx? (·.1) ((false, _) :: assignEach ts env) = none
    rw [List.findIdx?_cons, h2]; rfl
inductive UnpE (C : Cx w cs) (kp : List (Addr × Obj)) (f : SF) (xs : List Str) (Q : Flow → Shared → Prop) (rest : List Stmt) (a : SV) (n : SL) : Prop
  | mk (T : Addr) (P : Obj → Prop) (as : List SV) (e : a = .val (.ref T)) (hm : (T, P) ∈ n) (hP : ∀ o, P o → oTup as o) (hl : as.length = xs.length) (k : G C kp ((xs.zip as).reverse ++ f) n Q rest)
theorem g_unpack {ts : List Expr} {k : Nat} {tp : Pos} {e : Expr} {xs : List Str} (d : EvX C kp f n e (UnpE C kp f xs Q rest)) (hn : autoParam (namesOf ts = some xs) tR) (hl : autoParam (xs.all (isLoc cs) = true) tR)
    (hs : autoParam (swapsWithSole [.Tuple ts k tp] e pos.line C.env = pure false) tR) (hw : autoParam (swappedStores [.Tuple ts k tp] e C.env = pure none) tR) : G C kp f n Q (.Assign [.Tuple ts k tp] e pos :: rest) := .mk fun h t S =>
  wpAny_execs_cons (Assign_Tuple (d _ _ _ S fun v a n1 h1 t1 hr ha S1 => by
    obtain ⟨T, P, as, rfl, hm, hPo, hlen, hk⟩ := hr
    cases ha
    obtain ⟨m, F, R1⟩ := S1.fr
    obtain ⟨nw, N, K⟩ := S1.nw
    obtain ⟨o, g1, g2, _⟩ := S1.at' hm
    obtain ⟨vs, has, rfl⟩ := hPo o g2
    refine unpackN_ (s := C.at h1 t1) F N ⟨_, g1, rfl, 0, rfl⟩ C.hh (by rw [(names_len hn).1, ← hlen, ← has.length, List.size_toArray]) (names_len hn).2 fun h2 F2 N2 => ?_
    exact st_order hn hl has hlen (.mk' F2 R1 N2 K S1.nd S1.off) fun h3 t3 S3 => hk.run h3 t3 S3) hs hw)
theorem st_swap : ∀ {xs : List Str} {as : List SV} {vs : List Value} {f : SF} {Q : Unit → Shared → Prop} {h : Heap} {t : Nat}, xs.all (isLoc cs) = true → AllIs as vs → as.length = xs.length → C.St kp f n h →
    (∀ h' t', C.St kp ((xs.zip as).reverse ++ f) n h' → Q () (C.at h' t')) → wpAny (model pw w) C.A (assignInOrder (xs.map fun y => bindName C.env y) vs) Q C.E (C.at h t)
  | [], as, vs, f, Q, h, t, hl, ha, hlen, S, k => by
    cases as with
    | nil => exact assignInOrder_nil (k h t S)
    | cons _ _ => cases hlen
  | x :: xs, as, vs, f, Q, h, t, hl, ha, hlen, S, k => by
    rw [List.all_cons, Bool.and_eq_true] at hl
    obtain _ | ⟨a, as⟩ := as
    · cases hlen
    obtain _ | ⟨v, vs⟩ := vs
    · exact ha.elim
    refine assignInOrder_cons (bindName_ (st_store S ha.1 hl.1 fun h2 t2 S2 => st_swap hl.2 ha.2 (Nat.succ.inj hlen) S2 fun h3 t3 S3 => k h3 t3 ?_))
    rw [List.zip_cons_cons, List.reverse_cons, List.append_assoc]
    exact S3
theorem AllIs.rev : ∀ {as : List SV} {vs : List Value} {bs : List SV} {us : List Value}, AllIs as vs → AllIs bs us → AllIs (as.reverse ++ bs) (vs.reverse ++ us)
  | [], [], _, _, _, h => h
  | a :: as, v :: vs, bs, us, h, h' => by
    rw [List.reverse_cons, List.reverse_cons, List.append_assoc, List.append_assoc]
    exact AllIs.rev h.2 ⟨h.1, h'⟩
  | [], _ :: _, _, _, h, _ => h.elim
  | _ :: _, [], _, _, h, _ => h.elim
theorem g_swap {ts es : List Expr} {k k' : Nat} {tp ep : Pos} {xs : List Str} (d : EvL C kp f n es (fun as n' => G C kp ((xs.reverse.zip as.reverse).reverse ++ f) n' Q rest)) (hw : autoParam (swappedStores [.Tuple ts k tp] (.Tuple es k' ep) C.env = pure (some xs)) tR) (hl : autoParam (xs.reverse.all (isLoc cs) = true) tR)
    (hlen : autoParam (xs.length = es.length) tR) (hfew : autoParam (few es = true) tR) (hs : autoParam (swapsWithSole [.Tuple ts k tp] (.Tuple es k' ep) pos.line C.env = pure false) tR) : G C kp f n Q (.Assign [.Tuple ts k tp] (.Tuple es k' ep) pos :: rest) := .mk fun h t S =>
  wpAny_execs_cons (Assign_Tuple_swapped (Tuple_ (d _ _ _ _ S fun vs as n1 h1 t1 hr has hlv S1 => by
    obtain ⟨m, F, R1⟩ := S1.fr
    obtain ⟨nw, N, K⟩ := S1.nw
    refine kup_newTuple (s := C.at h1 t1) F N (fun D h2 F2 N2 fr => ?_) (few_ok hlv hfew)
    refine unpackItemsN_ (s := C.at h2 t1) F2 N2 ⟨_, (N2 _ (.head _)).1, rfl, 0, rfl⟩ C.hh (by rw [List.size_toArray, hlv, hlen]) fun h3 F3 N3 => ?_
    have e : as.reverse.length = xs.reverse.length := by rw [List.length_reverse, List.length_reverse, ← has.length, hlv, hlen]
    exact st_swap hl (by simpa using has.rev (bs := []) (us := []) trivial) e (.mk' F3 R1 (fun p hp => N3 p (.tail _ hp)) K S1.nd S1.off) fun h4 t4 S4 => hr.run h4 t4 S4)) hs hw)
end
end
section
open PySem PySem.W PySem.Calls PyProof PyProof.Rows
noncomputable def oEqs (own : List (Addr × Obj)) : SL := own.map fun p => (p.1, oEq p.2)
structure NewC (h h' : Heap) (new : SL) : Prop where
  at' : ∀ p ∈ new, h.get? p.1 = none ∧ ∃ o, h'.get? p.1 = some o ∧ p.2 o
  nd : (new.map (·.1)).Nodup
theorem NewC.nil {h h' : Heap} : NewC h h' [] := ⟨fun _ h => (nomatch h), List.Pairwise.nil⟩
theorem NewC.one {h h' : Heap} {a : Addr} {o : Obj} {P : Obj → Prop} (h1 : h.get? a = none) (h2 : h'.get? a = some o) (hP : P o) : NewC h h' [(a, P)] := ⟨fun p hp => (by rw [List.mem_singleton.mp hp]; exact ⟨h1, o, h2, hP⟩), by simp⟩
section
variable {w : World} {cs : Scope} {md : Bool} {C : CxU w cs md} {kp : List (Addr × Obj)} {f : SF} {n : SL} {Q : Flow → Shared → Prop} {x : Str} {pos p2 p3 p4 : Pos} {rest : List Stmt} {α : Type} {R : SV → SL → Prop}
inductive SiteI (C : CxU w cs md) (f : SF) (h : Heap) : Prop
  | mk (m : Str → Option Value) (X : Site w C.A C.s.heap C.L h m) (R : FrR C.xm f m)
theorem StS.site {h : Heap} (S : C.St kp f n h) : SiteI C f h := by
  obtain ⟨m, F, R⟩ := S.fr
  exact ⟨m, ⟨C.hh, F, C.site⟩, R⟩
theorem StS.adds {h₀ h h' hb : Heap} {L : Addr} {xm : XM} {m : Str → Option Value} {new keep : SL} (S : StS h₀ L xm kp f keep h) (hs : ∀ a o, (a = L ∨ a ∈ keep.map (·.1) ∨ a ∈ kp.map (·.1) ∨ ∃ o, h₀.get? a = some o) → h.get? a = some o → hb.get? a = some o) (hs' : hb.StaysIn h') (hn : NewC hb h' new) : StS h₀ L xm kp f (new ++ keep) h' := by
  obtain ⟨m, F, R⟩ := S.fr
  obtain ⟨nw, N, K⟩ := S.nw
  have up : ∀ a o, (a = L ∨ a ∈ keep.map (·.1) ∨ a ∈ kp.map (·.1) ∨ ∃ o, h₀.get? a = some o) → h.get? a = some o → h'.get? a = some o := fun a o q e => hs' a o (hs a o q e)
  obtain ⟨oL, es, ep, hL, hLd, hLk, hLf⟩ := F.ns
  have F' : Fr h₀ L h' m := ⟨⟨oL, es, ep, up _ _ (.inl rfl) hL, hLd, hLk, hLf⟩, fun b o e => up b o (.inr (.inr (.inr ⟨o, e⟩))) (F.keep b o e), F.above⟩
  have old : ∀ a, (a = L ∨ a ∈ keep.map (·.1) ∨ a ∈ kp.map (·.1) ∨ ∃ o, h₀.get? a = some o) → (∃ o, h.get? a = some o) → a ∉ new.map (·.1) := fun a q ⟨o, e⟩ hm => by
    obtain ⟨p, hp, rfl⟩ := List.mem_map.mp hm
    have := hs _ _ q e
    rw [(hn.at' p hp).1] at this; cases this
  obtain ⟨nn, NN, KN⟩ := Conc.one (h₀ := h₀) (h := h') (L := L) new fun p hp => by
    obtain ⟨h1, o, h2, h3⟩ := hn.at' p hp
    refine ⟨o, h3, h2, fun e => old L (.inl rfl) ⟨_, hL⟩ (e ▸ List.mem_map.mpr ⟨p, hp, rfl⟩), ?_⟩
    cases q : h₀.get? p.1 with
    | none => rfl
    | some o' => exact absurd (List.mem_map.mpr ⟨p, hp, rfl⟩) (old p.1 (.inr (.inr (.inr ⟨o', q⟩))) ⟨_, F.keep _ _ q⟩)
  have kmem : ∀ p ∈ nw, p.1 ∈ keep.map (·.1) := fun p hp => by rw [K.addrs]; exact List.mem_map.mpr ⟨p, hp, rfl⟩
  have app : ∀ {a b : SL} {c d : List (Addr × Obj)}, Conc a c → Conc b d → Conc (a ++ b) (c ++ d) := fun {a b c d} => by
    induction a generalizing c with
    | nil => intro h1 h2; cases c with | nil => exact h2 | cons _ _ => exact h1.elim
    | cons p a ih => intro h1 h2; cases c with | nil => exact h1.elim | cons q c => exact ⟨h1.1, h1.2.1, ih h1.2.2 h2⟩
  refine ⟨⟨m, F', R⟩, ⟨nn ++ nw, fun p hp => ?_, app KN K⟩, ?_, fun p hp hq => ?_⟩
  · rw [List.append_assoc] at hp
    rcases List.mem_append.mp hp with hp | hp
    · exact NN p hp
    · refine ⟨up _ _ ?_ (N p hp).1, (N p hp).2⟩
      rcases List.mem_append.mp hp with hp | hp
      · exact .inr (.inl (kmem p hp))
      · exact .inr (.inr (.inl (List.mem_map.mpr ⟨p, hp, rfl⟩)))
  · rw [List.map_append, List.nodup_append]
    refine ⟨hn.nd, S.nd, fun a ha b hb e => ?_⟩
    subst e
    have hb' := hb
    rw [K.addrs] at hb'
    obtain ⟨p, hp, rfl⟩ := List.mem_map.mp hb'
    exact old _ (.inr (.inl hb)) ⟨_, (N p (List.mem_append_left _ hp)).1⟩ ha
  · rw [List.map_append] at hq
    rcases List.mem_append.mp hq with hq | hq
    · exact old _ (.inr (.inr (.inl (List.mem_map.mpr ⟨p, hp, rfl⟩)))) ⟨_, (N p (List.mem_append_right _ hp)).1⟩ hq
    · exact S.off p hp hq
inductive Gives (h h' : Heap) (v : Value) (n : SL) (R : SV → SL → Prop) : Prop
  | mk (a : SV) (new : SL) (ha : a.Is v) (hn : NewC h h' new) (hR : R a (new ++ n))
structure UsePur (C : CxU w cs md) (kp : List (Addr × Obj)) (f : SF) (n : SL) (fa : Addr) (vs : List Value) (D U : Nat) (P : Heap → Prop) (Rp : Heap → Value → Heap → Prop) (R : SV → SL → Prop) : Prop where
  c : PurK w fa vs [] D U P Rp
  hd : C.A.depth + D < recursionLimit
  hu : C.A.units + U < cLine
  hP : ∀ h, C.St kp f n h → P h
  k : ∀ h v h', C.St kp f n h → Rp h v h' → Gives h h' v n R
theorem st_pur {fa : Addr} {vs : List Value} {D U : Nat} {P : Heap → Prop} {Rp : Heap → Value → Heap → Prop} {h : Heap} {t : Nat} {Q : Value → Shared → Prop} (S : C.St kp f n h) (u : UsePur C kp f n fa vs D U P Rp R)
    (k : ∀ v a n' h' t', R a n' → a.Is v → C.St kp f n' h' → Q v (C.at h' t')) : wpAny (model pw w) C.A (call (.ref fa) vs []) Q C.E (C.at h t) := by
  obtain ⟨m, X, _⟩ := S.site
  refine pur_use u.c X u.hd u.hu (u.hP h S) fun v h' t' hs F' hr => ?_
  obtain ⟨a, new, ha, hn, hR⟩ := u.k h v h' S hr
  exact k v a _ h' t' hR ha (S.adds (m := m) (fun a o _ e => e) hs hn)
theorem ev_K {x : Str} {v : Value} (e : nsIn (Kx w.params) mainGlobals x = some (some v)) (hx : autoParam (isGlo cs x = true) tR) (hd : autoParam ((x == ("__debug__" : Str)) = false) tD) : Ev C kp f n (.Name x pos) (.val v) := fun _ _ _ S q => by
  obtain ⟨m, F, R⟩ := S.fr
  obtain ⟨X, mg, mb, mean, T⟩ := C_inI C
  have T := topRead_of T
  exact Name_function_global (env := C.env) C.hk (by unfold isGlo at hx; exact beq_iff_eq.mp hx) (loadGlobal_global (env := C.env) (s := C.at _ _) (T.g.keeps F.keep) (mg_of X T.g e) (q _ _ _ rfl S)) hd
inductive PurE (C : CxU w cs md) (kp : List (Addr × Obj)) (f : SF) (n : SL) (fa : Addr) (vs : List Value) (R : SV → SL → Prop) : Prop
  | mk (D U : Nat) (P : Heap → Prop) (Rp : Heap → Value → Heap → Prop) (u : UsePur C kp f n fa vs D U P Rp R)
theorem EvX.pur {g : Str} {fa : Addr} {e : Expr} {es : List Expr} (d : EvL C kp f n (e :: es) (fun as n1 => ∀ vs, AllIs as vs → PurE C kp f n1 fa vs R))
    (hg : nsIn (Kx w.params) mainGlobals g = some (some (.ref fa))) (hk : keepIn (Kx w.params) (.ref fa) = true) (hx : autoParam (isGlo cs g = true) tR) (hd : autoParam ((g == ("__debug__" : Str)) = false) tD) (hs : autoParam (isStar e = false) tR) (hs' : autoParam ((backTo pos (starEach es C.env)).any (·.1) = false) tR)
    (hc : autoParam (eval (Expr.Call (.Name g p2) (e :: es) [] pos) C.env = (do let f ← eval (.Name g p2) C.env; callWith pos f [] (backTo pos (starEach (e :: es) C.env)) (backToKw pos (keywordEach [] C.env)))) tR) : EvX C kp f n (.Call (.Name g p2) (e :: es) [] pos) R := fun _ _ _ S q =>
  Call_ (ev_K hg hx hd _ _ _ S fun _ _ _ e0 S0 => by
    cases e0
    refine callWith_K (C_in C).1 hk (d _ _ _ _ S0 fun vs as n1 h1 t1 hr has _ S1 => ?_) (star_not hs) hs'
    obtain ⟨m, F, _⟩ := S1.fr
    obtain ⟨D, U, P, Rp, u⟩ := hr vs has
    exact ⟨(C_in C).1.keeps F.keep, st_pur S1 u fun v a n' h' t' hR ha S' => q v a n' h' t' hR ha S'⟩) hc
structure UseOwn (C : CxU w cs md) (kp : List (Addr × Obj)) (f : SF) (n : SL) (fa : Addr) (vs : List Value) (own : List (Addr × Obj)) (keep : SL) (D U : Nat) (P : Heap → Prop) (Rp : Heap → Value → Heap → Prop) (R : SV → SL → Prop) : Prop where
  c : OwnK w fa vs own D U P Rp
  hd : C.A.depth + D < recursionLimit
  hu : C.A.units + U < cLine
  pick : Pick (oEqs own ++ keep) n
  hP : ∀ h g, C.St kp f keep h → C.s.heap.StaysIn g → (∀ p ∈ keep, ∀ o, h.get? p.1 = some o → g.get? p.1 = some o) → P g
  k : ∀ h v h', Rp h v h' → Gives h h' v keep R
theorem st_own {fa : Addr} {vs : List Value} {own : List (Addr × Obj)} {keep : SL} {D U : Nat} {P : Heap → Prop} {Rp : Heap → Value → Heap → Prop} {h : Heap} {t : Nat} {Q : Value → Shared → Prop} (S : C.St kp f n h) (u : UseOwn C kp f n fa vs own keep D U P Rp R)
    (k : ∀ v a n' h' t', R a n' → a.Is v → C.St kp f n' h' → Q v (C.at h' t')) : wpAny (model pw w) C.A (call (.ref fa) vs []) Q C.E (C.at h t) := by
  have S := S.pick u.pick
  obtain ⟨m, X, _⟩ := S.site
  have hown : ∀ p ∈ own, (p.1, oEq p.2) ∈ oEqs own ++ keep := fun p hp => List.mem_append_left _ (List.mem_map.mpr ⟨p, hp, rfl⟩)
  have N : News C.s.heap C.L h own := fun p hp => by
    obtain ⟨o, h1, h2, h3, h4⟩ := S.at' (hown p hp)
    cases h2
    exact ⟨h1, h3, h4⟩
  have Sk : C.St kp f keep h := S.pick .drop
  have hb : ∀ b o, C.s.heap.get? b = some o → (less h own).get? b = some o := fun b o e => hideAll_get _ (X.fr.keep b o e) fun hm => by
    obtain ⟨p, hp, rfl⟩ := List.mem_map.mp hm
    rw [(N p hp).2.2] at e; cases e
  have hkeep : ∀ p ∈ keep, ∀ o, h.get? p.1 = some o → (less h own).get? p.1 = some o := fun p hp o e => hideAll_get _ e fun hm => by
    obtain ⟨q, hq, e'⟩ := List.mem_map.mp hm
    have nd := S.nd
    rw [List.map_append, List.nodup_append] at nd
    exact nd.2.2 q.1 (List.mem_map.mpr ⟨_, List.mem_map.mpr ⟨q, hq, rfl⟩, rfl⟩) p.1 (List.mem_map.mpr ⟨p, hp, rfl⟩) e'
  refine own_use u.c X N u.hd u.hu (u.hP _ _ Sk hb hkeep) fun v h' t' hs F' hr => ?_
  obtain ⟨a, new, ha, hn, hR⟩ := u.k _ v h' hr
  refine k v a _ h' t' hR ha (Sk.adds (m := m) (hb := less h own) (fun a o q e => hideAll_get _ e fun hm => ?_) hs hn)
  obtain ⟨p, hp, rfl⟩ := List.mem_map.mp hm
  rcases q with q | q | q | ⟨o', q⟩
  · exact (N p hp).2.1 q
  · have nd := S.nd
    rw [List.map_append, List.nodup_append] at nd
    exact nd.2.2 p.1 (List.mem_map.mpr ⟨_, List.mem_map.mpr ⟨p, hp, rfl⟩, rfl⟩) p.1 q rfl
  · obtain ⟨p', hp', e'⟩ := List.mem_map.mp q
    exact S.off p' hp' (e' ▸ List.mem_map.mpr ⟨_, hown p hp, rfl⟩)
  · rw [(N p hp).2.2] at q; cases q
noncomputable def methIn (p : Params) (c : Addr) (name : Str) (fa : Addr) : Bool := plainGet (Kx p) c name && findIn (Kx p) (.ref c) name == some (some (.ref fa)) && isFn (Kx p) (.ref fa) && keepIn (Kx p) (.ref fa)
inductive OwnE (C : CxU w cs md) (kp : List (Addr × Obj)) (f : SF) (n : SL) (fa : Addr) (vs : List Value) (R : SV → SL → Prop) : Prop
  | mk (own : List (Addr × Obj)) (keep : SL) (D U : Nat) (P : Heap → Prop) (Rp : Heap → Value → Heap → Prop) (u : UseOwn C kp f n fa vs own keep D U P Rp R)
end
section
variable {w : World} {cs : Scope} {C : CxU w cs true} {kp : List (Addr × Obj)} {f : SF} {n : SL} {Q : Flow → Shared → Prop} {x : Str} {pos p2 p3 p4 : Pos} {rest : List Stmt} {α : Type} {R : SV → SL → Prop}
theorem EvX.meth {y g : Str} {X c d : Addr} {P : Obj → Prop} {fa : Addr} {e : Expr} {es : List Expr} (hy : lkS y f = some (.val (.ref X))) (hx : (X, oEq (instObj c d)) ∈ n) (hd : (d, P) ∈ n) (hP : ∀ o, P o → ∃ ds k, o = dictOf ds k ∧ getL g ds = some none) (hm : methIn w.params c g fa = true)
    (a : EvL C kp f n (e :: es) (fun as n1 => ∀ vs, AllIs as vs → OwnE C kp f n1 fa (.ref X :: vs) R)) (hloc : autoParam (isLoc cs y = true) tR) (hs : autoParam (isStar e = false) tR) (hs' : autoParam ((backTo pos (starEach es C.env)).any (·.1) = false) tR)
    (he : ∃ pl, eval (.Call (.Attribute (.Name y p2) g p3) (e :: es) [] pos) C.env = (do
         let ov ← eval (.Name y p2) C.env
         standAt p3.atName
         let (f, first) ← holding [ov] (getMethod ov g pl)
         callWith pos f first (backTo pos (starEach (e :: es) C.env)) []) := by exact ⟨_, rfl⟩) : EvX C kp f n (.Call (.Attribute (.Name y p2) g p3) (e :: es) [] pos) R := fun _ _ _ S q =>
  MethodCall_ (ev_name hy hloc _ _ _ S fun _ h0 t0 e0 S0 => by
    cases e0
    obtain ⟨m, F, _⟩ := S0.fr
    obtain ⟨o1, g1, e1, _⟩ := S0.at' hx
    obtain ⟨o2, g2, e2, _⟩ := S0.at' hd
    cases e1
    obtain ⟨ds, k, rfl, hl⟩ := hP _ e2
    unfold methIn at hm
    rw [Bool.and_eq_true, Bool.and_eq_true, Bool.and_eq_true] at hm
    refine method_inst (s := C.at h0 t0) F (C_in C).1 ⟨g1, rfl, rfl, g2⟩ hm.1.1.1 (beq_iff_eq.mp hm.1.1.2) hm.1.2 hl ?_
    refine callWith_K (C_in C).1 hm.2 (a _ _ _ _ S0 fun vs as n1 h1 t1 hr has _ S1 => ?_) (star_not hs) hs'
    obtain ⟨m, F, _⟩ := S1.fr
    obtain ⟨own, keep, D, U, P, Rp, u⟩ := hr vs has
    exact ⟨(C_in C).1.keeps F.keep, st_own S1 u fun v a n' h' t' hR ha S' => q v a n' h' t' hR ha S'⟩) he.choose_spec
end
section
variable {w : World} {D U : Nat} {P : Heap → Prop} {Rp : Heap → Value → Heap → Prop} {name qual : Str} {params : Arguments} {body : List Stmt} {scope : Scope} {dV kV doc pm cdv ct oc : Value} {an od : Option Addr} {osl : Array (Option Value)} {f : Addr} {vs : List Value} {binds : List (Str × Value)} {f0 : SF} {own : List (Addr × Obj)}
theorem conc_eqs : ∀ (own : List (Addr × Obj)), Conc (oEqs own) own
  | [] => trivial
  | p :: l => ⟨rfl, rfl, conc_eqs l⟩
theorem own_S (hD : 1 ≤ D)
    (ho : (Kx w.params).lookup f = some ⟨oc, od, .func (fnOf name qual params body scope dV kV doc pm an cdv ct), osl⟩) (hcd : codeIn (Kx w.params) cdv qual = true)
    (hbind : ∀ s : Shared, (Kx w.params).In s.heap → BindsTo s (fnOf name qual params body scope dV kV doc pm an cdv ct) ⟨vs, []⟩ binds) (hloc : ∀ y ∈ binds, scope.names.lookup y.1 = some .local)
    (hf0 : AllF (fun y => binds.reverse.lookup y) f0) (hnd : (own.map (·.1)).Nodup)
    (h : ∀ C : Cx w scope, C.A.depth + D < recursionLimit + 1 → C.A.units + U < cLine + 3 → P C.s.heap → ∀ Q, SEnd C Rp Q → G C [] f0 (oEqs own) Q body)
    (hco : scope.isCoroutine = false) (hgen : scope.isGenerator = false) (hk : scope.kind = .function)
    (hcell : ∀ x ∈ scope.names, x.2 ≠ .cell) : OwnK w f vs own D U P Rp := by
  refine own_intro hD ho hcd hbind hloc (fun dp un gd env outer base mean mg mb s E L' h₁ tk hd hu hP F N B X T => ?_) hco hgen hk hcell
  refine (h { A := (topE dp un gd env outer).deeper (envOf qual scope L' f cdv), E := _, s := s, lo := L', fl := L', xf := fun _ => none, ql := _, fu := some f, ccd := cdv, cl := [], hh := rfl, hk := hk, hP := fun _ => ?e, site := ⟨_, _, _, _, _, _, _, rfl, rfl, hk, B, X, T⟩ } ?_ ?_ hP _ send_of).run h₁ tk ⟨⟨_, F, frr_of hf0⟩, ⟨own, by rw [List.append_nil]; exact N, conc_eqs own⟩, by rw [(conc_eqs own).addrs]; exact hnd, fun _ h => nomatch h⟩
  case e => passes_own
  all_goals (simp only [Around.deeper]; omega)
end
end
section
open PySem PySem.W PySem.Calls PySem.Spec PyProof.Rows PyProof.V
set_option maxRecDepth 100000
section
variable {prog : Program} {w : World} {A : Around} {E : Value → Shared → Prop} {s : Shared} {env : Env} {h₀ : Heap} {target : Expr} {body : List Stmt} {Q : Flow → Shared → Prop}
theorem turns_core {I : Addr} {fp wr : List Addr} {n : Nat} {P Md : Nat → Value → Heap → Prop} {St : Nat → Heap → Prop} {m₀ : Str → Option Value} {news : List (Addr × Obj)} (J : Nat → (Str → Option Value) → List (Addr × Obj) → Prop)
    (W : KTurns prog w A target I fp wr n P Md St) (hLf : env.locals ∉ fp) (hwr : ∀ b ∈ wr, h₀.get? b = none) (hfw : ∀ b ∈ fp, h₀.get? b = none → b ∈ wr) (hlive : ∀ i h b, St i h → b ∈ wr → ∃ o, h.get? b = some o)
    (hnw : ∀ p ∈ news, p.1 ∉ wr) (hst : St 0 s.heap) (F : Fr h₀ env.locals s.heap m₀) (N : News h₀ env.locals s.heap news) (hj : J 0 m₀ news)
    (turn : ∀ i v m₁ news₁ h tk own, i < n → P i v h → OwnOff own (news₁.map (·.1)) → J i m₁ news₁ → Fr h₀ env.locals h m₁ → News h₀ env.locals h (news₁ ++ own) →
      wpAny (model prog w) A (assign target env v) (fun _ s₃ => wpAny (model prog w) A (execs body env) (InvPostG h₀ env.locals (J (i + 1)) own { s with heap := h, toks := tk } Q) E s₃) E { s with heap := h, toks := tk })
    (done : ∀ m₁ news₁ h tk, J n m₁ news₁ → Fr h₀ env.locals h m₁ → News h₀ env.locals h news₁ → Q .next { s with heap := h, toks := tk }) :
    TurnsAt prog w A h₀ env target body Q E (.ref I) s := by
  refine ⟨I, fp, wr, n, P, Md, St, m₀, news, J, rfl, W, hLf, hwr, hnw, hst, F, N, hj, ?_, ?_⟩
  · intro i v m₁ news₁ h₁ tk₁ own hin hP hJ hoff hown hget hall hst₁ F₁ N₁
    have hw : ∀ b ∈ wr, b ∈ own.map (·.1) := fun b hb => by
      obtain ⟨o, ho⟩ := hlive _ _ _ hst₁ hb
      exact List.mem_map.mpr ⟨_, hall b (W.sub b hb) (hwr b hb) o ho, rfl⟩
    have hsep : OwnOff own (news₁.map (·.1)) := by
      intro p hp b hb e
      obtain ⟨q, hq, rfl⟩ := List.mem_map.mp hb
      exact hoff q hq (e ▸ hfw _ (hown p hp) ((N₁ p (List.mem_append_left _ hp)).2.2))
    have N₂ : News h₀ env.locals h₁ (news₁ ++ own) := fun p hp => N₁ p ((List.mem_append.mp hp).elim (fun h => List.mem_append.mpr (.inr h)) fun h => List.mem_append.mpr (.inl h))
    refine wpAny_mono (turn i v m₁ news₁ h₁ tk₁ own hin hP hsep hJ F₁ N₂) (fun _ s₃ q => wpAny_mono q (fun f s₂ p => ?_) fun _ _ e => e) fun _ _ e => e
    cases f with
    | ret v => exact .ret p
    | brk => exact .brk p
    | next => exact .next (stepU_of (I := I) hw p)
    | cont => exact .cont (stepU_of (I := I) hw p)
  · rintro h' tk m' news' F' N' _ hJ
    exact done m' news' h' tk hJ F' N'
theorem iter_enumStr {elts : List Expr} {k : Nat} {pos : Pos} {x : Str} {tx : Tok} {m₀ : Str → Option Value} {news : List (Addr × Obj)} (J : Nat → (Str → Option Value) → List (Addr × Obj) → Prop)
    (hh : A.handled = none) (F : Fr h₀ env.locals s.heap m₀) (N : News h₀ env.locals s.heap news) (hj : J 0 m₀ news)
    (turn : ∀ (i : Nat) c T t u m₁ news₁ h tk own, x.cps.toList[i]? = some c → IsTup h T #[.int (i : Int) t, .str ⟨#[c]⟩ u] → OwnOff own (news₁.map (·.1)) → J i m₁ news₁ → Fr h₀ env.locals h m₁ → News h₀ env.locals h (news₁ ++ own) →
      wpAny (model prog w) A (assign (.Tuple elts k pos) env (.ref T)) (fun _ s₃ => wpAny (model prog w) A (execs body env) (InvPostG h₀ env.locals (J (i + 1)) own { s with heap := h, toks := tk } Q) E s₃) E { s with heap := h, toks := tk })
    (done : ∀ m₁ news₁ h tk, J x.length m₁ news₁ → Fr h₀ env.locals h m₁ → News h₀ env.locals h news₁ → Q .next { s with heap := h, toks := tk }) :
    wpAny (model prog w) A (call (.type "enumerate") [.str x tx]) (fun xv s₁ => wpAny (model prog w) A (pyIter xv) (fun it s₂ => TurnsAt prog w A h₀ env (.Tuple elts k pos) body Q E it s₂) E s₁) E s := by
  have hLs : env.locals < s.heap.objs.size := F.ns.lt
  refine call_enumerate_str fun h' he hit hsz hk => ?_
  refine wpAny_pyIter_enum he ?_
  have F' : Fr h₀ env.locals h' m₀ := ⟨F.ns.keeps hk, fun b o e => hk b o (F.keep b o e), F.above⟩
  have N' : News h₀ env.locals h' news := fun p hp => ⟨hk _ _ (N p hp).1, (N p hp).2⟩
  have go : ∀ {St₀ : Nat → Heap → Prop} (D : Draws prog w A.in1 s.heap.objs.size [s.heap.objs.size] x.length (fun i v => ∃ c u, x.cps[i]? = some c ∧ v = Value.str ⟨#[c]⟩ u) St₀), St₀ 0 h' → (∀ i h, St₀ i h → ∃ o, h.get? s.heap.objs.size = some o) →
      TurnsAt prog w A h₀ env (.Tuple elts k pos) body Q E (.ref (s.heap.objs.size + 1)) { s with heap := h' } := by
    intro St₀ D h0 hl
    have W := KTurns.ofWalksU (elts := elts) (k := k) (pos := pos) (WalksT.enumerateD D (s.heap.objs.size + 1) (Nat.succ_ne_self _) (fun hm => Nat.succ_ne_self _ (List.mem_singleton.mp hm)) (List.mem_singleton.mpr rfl)).toU
    refine turns_core (s := { s with heap := h' }) J W ?_ ?_ ?_ ?_ ?_ ⟨⟨_, he⟩, h0⟩ F' N' hj ?_ done
    · intro hm
      rcases List.mem_cons.mp hm with e | hm
      · exact Nat.ne_of_lt (Nat.lt_succ_of_lt hLs) e
      · exact Nat.ne_of_lt hLs (List.mem_singleton.mp hm)
    · intro b hb
      rcases List.mem_cons.mp hb with rfl | hb
      · exact ktu_new F (Nat.le_succ _)
      · rw [List.mem_singleton.mp hb]; exact ktu_new F (Nat.le_refl _)
    · intro b hb _
      exact hb
    · rintro i h b ⟨⟨old, hE⟩, st⟩ hb
      rcases List.mem_cons.mp hb with rfl | hb
      · exact ⟨_, hE⟩
      · rw [List.mem_singleton.mp hb]; exact hl _ _ st
    · intro p hp hb
      have hq1 : p.1 < s.heap.objs.size := Heap.lt_size (N p hp).1
      rcases List.mem_cons.mp hb with e | hb
      · exact Nat.ne_of_lt (Nat.lt_succ_of_lt hq1) e
      · exact Nat.ne_of_lt hq1 (List.mem_singleton.mp hb)
    · rintro i v m₁ news₁ h tk own hi ⟨T, vals, rfl, ⟨t, y, ⟨c, u, hc, rfl⟩, rfl⟩, hT⟩ hoff hJ F₁ N₁
      exact turn i c T t u m₁ news₁ h tk own (by rw [← hc, Array.getElem?_toList]) hT hoff hJ F₁ N₁
  cases ha : x.cps.all (· < 128)
  · have hit' : h'.IsStrIter s.heap.objs.size "str_iterator" x tx 0 := by simpa [strIterType, ha] using hit
    exact go (Draws.strWide (A := A.in1) hh s.heap.objs.size x tx) hit' (fun i h st => by obtain ⟨o, e, _⟩ := st; exact ⟨o, e⟩)
  · have hit' : h'.IsStrIter s.heap.objs.size "str_ascii_iterator" x tx 0 := by simpa [strIterType, ha] using hit
    exact go (Draws.strAscii (A := A.in1) hh s.heap.objs.size x tx) hit' (fun i h st => by obtain ⟨o, e, _⟩ := st; exact ⟨o, e⟩)
end
end
section
open PySem PySem.W PySem.Calls PySem.Spec PyProof PyProof.Rows
noncomputable def occ (l : List Nat) (n : Nat) (c : Nat) : List Nat := (List.range n).filter fun i => l[i]? == some c
theorem occ_succ (l : List Nat) (n c : Nat) : occ l (n + 1) c = occ l n c ++ if l[n]? = some c then [n] else [] := by
  unfold occ
  rw [List.range_succ, List.filter_append]
  congr 1
  by_cases h : l[n]? = some c
  · simp [h]
  · simp [h]
theorem sign_inj {a b : Nat} (h : (⟨#[a]⟩ : Str) = ⟨#[b]⟩) : a = b := by
  simp only [Str.mk.injEq] at h
  have := congrArg Array.toList h
  simpa using this
end
section
open PySem PySem.W PySem.Calls PySem.Spec PyProof PyProof.Rows
abbrev boundObj (id : String) (a : Addr) : Obj := { cls := .type "builtin_function_or_method", data := .fields #[.builtin id, .ref a] }
namespace BM
theorem slot_get : Slot "method_descriptor" "__get__" "method_descriptor.__get__" :=
  .of (owner := "method_descriptor") (n := "__get__") (by rw [typeLookup_type, builtinLookup_eq_fast]; kernel_rfl) (by decide +kernel) (by decide +kernel) (by decide +kernel)
    (by first | exact .inl (by decide +kernel) | exact .inr (by decide +kernel)) (by rw [isSubtype_type]; kernel_rfl)
theorem entry_get : entryFor table "method_descriptor.__get__" = some Builtin.«method_descriptor.__get__» := entryFor_of_tree (by kernel_rfl)
theorem args_get (a b c : Value) : argsOk "method_descriptor.__get__" ⟨[a, b, c], []⟩ := by unfold argsOk; kernel_rfl
theorem no_set : typeLookup (.type "method_descriptor") "__set__" = pure none := by rw [typeLookup_type, builtinLookup_eq_fast]; kernel_rfl
theorem no_delete : typeLookup (.type "method_descriptor") "__delete__" = pure none := by rw [typeLookup_type, builtinLookup_eq_fast]; kernel_rfl
theorem list_no_getattr : typeLookup (.type "list") "__getattr__" = pure none := by rw [typeLookup_type, builtinLookup_eq_fast]; kernel_rfl
theorem sub_list : isSubtype (.type "list") (.type "list") = pure true := by rw [isSubtype_type]; kernel_rfl
end BM
section
variable {prog : Program} {w : World} {A : Around} {E : Value → Shared → Prop} {s : Shared}
structure BoundOk (T : String) (name : String) (id : String) : Prop where
  told : (Manifest.toldItsClass.contains id) = false
  sub : isSubtype (.type T) (.type T) = pure true
  owner : ".".intercalate (id.cutAt '.').dropLast = T
theorem run_get_bound {T name id : String} (K : BoundOk T name id) {P : Fin → Shared → Prop} {a : Addr} {o : Obj} (ho : s.heap.get? a = some o) (hc : o.cls = .type T) (h : P (.done (.ret (.ref s.heap.objs.size))) { s with heap := s.heap.push (boundObj id a) }) :
    wpAny (model prog w) A (Builtin.«method_descriptor.__get__» ⟨[.builtin id, .ref a, .type T], []⟩) P E s := by
  have hT : s.TypeIs (.ref a) T := ⟨_, ho, hc⟩
  have f1 := K.sub
  unfold Builtin.«method_descriptor.__get__»
  refine wpAny_bind (wpAny_of_eq (a := (.builtin id, some (.ref a), some (.type T))) (by first | rfl | kernel_rfl) ?_)
  dsimp only
  rw [if_neg (by rw [K.told]; exact Bool.false_ne_true)]
  refine wpAny_bind ?_
  refine wpAny_bind (wpAny_of_eq (a := (Str.ofString ((id.cutAt '.').getLastD ""), Value.type (".".intercalate (id.cutAt '.').dropLast))) rfl ?_)
  dsimp only
  rw [K.owner]
  refine wpAny_bind (wpAny_isInstance hT K.sub ?_)
  rw [if_neg (by decide)]
  refine wpAny_pure ?_
  exact wpAny_bind (wpAny_newObj_type (wpAny_pure h))
theorem call_get_bound {T name id : String} (K : BoundOk T name id) (hty : typeOf (.builtin id) = pure (.type "method_descriptor")) {R : Result → Shared → Prop} {a : Addr} {o : Obj} (ho : s.heap.get? a = some o) (hc : o.cls = .type T)
    (h : R (.ok (.ret (.ref s.heap.objs.size))) { s with heap := s.heap.push (boundObj id a) }) :
    codeAny (model prog w) A (.call (.builtin "method_descriptor.__get__") ⟨[.builtin id, .ref a, .type T], []⟩) R s :=
  codeAny_call_builtin BM.slot_get.plain BM.entry_get (BM.slot_get.check _ _ _ _ _ _ _ _ (show s.TypeIs (.builtin id) "method_descriptor" from hty) (BM.args_get _ _ _) (run_get_bound K ho hc h))
theorem run_ga_list {P : Fin → Shared → Prop} {a : Addr} {xs : Array Value} {k : Nat} {sl : Array (Option Value)} {u : Tok} (hx : s.heap.get? a = some { cls := .type "list", dict := none, data := .seq xs k, slots := sl })
    (h : P (.done (.ret (.ref s.heap.objs.size))) { s with heap := s.heap.push (boundObj "list.append" a) }) :
    wpAny (model prog w) A (Builtin.«object.__getattribute__» ⟨[.ref a, .str "append" u], []⟩) P E s := by
  obtain ⟨hp, g, d, tk, os⟩ := s
  have hT : (⟨hp, g, d, tk, os⟩ : Shared).TypeIs (.ref a) "list" := ⟨_, hx, rfl⟩
  have f4 := F.slot_list_append.lookup
  have f5 := F.type_list_append
  have f6 := BM.slot_get.lookup
  have f7 := BM.no_set
  have f8 := BM.no_delete
  unfold Builtin.«object.__getattribute__»
  repeat (any_goals (first | assumption | wp_step))
  exact call_get_bound (name := "append") ⟨by decide +kernel, by rw [isSubtype_type]; kernel_rfl, by decide +kernel⟩ F.type_list_append hx rfl (wpAny_pure h)
theorem getAttr_list {Q : Value → Shared → Prop} {a : Addr} {o : Obj} (ho : s.heap.get? a = some o) (hc : o.cls = .type "list") (hd : o.dict = none) (hdat : ∃ xs k, o.data = .seq xs k)
    (h : ∀ tk, Q (.ref s.heap.objs.size) { s with heap := s.heap.push (boundObj "list.append" a), toks := tk }) : wpAny (model prog w) A (getAttr (.ref a) "append" true) Q E s := by
  obtain ⟨c, dct, dat, sl⟩ := o
  obtain ⟨xs, k, hdat⟩ := hdat
  dsimp only at hc hd hdat
  subst hc hd hdat
  obtain ⟨hp, g, d, tk, os⟩ := s
  have hT : ∀ tk', (⟨hp, g, d, tk', os⟩ : Shared).TypeIs (.ref a) "list" := fun _ => ⟨_, ho, rfl⟩
  have f3 := F.slot_list_getattribute.lookup
  have f4 := F.slot_list_getattribute.bind (.ref a)
  unfold getAttr getAttrBy
  repeat (any_goals (first | assumption | exact hT _ | wp_step))
  refine codeAny_call_builtin F.slot_list_getattribute.plain F.entry_list_ga (F.slot_list_getattribute.check _ _ _ _ _ _ _ _ (hT _) (F.args_list_getattribute_2 _ _) (run_ga_list (s := ⟨hp, g, d, tk + 1, os⟩) ho ?_))
  show wpAny _ _ (handedOut _) _ _ _
  rw [PySem.W.handedOut_of (show PySem.W.handedIn (.ref _) = true from rfl)]
  exact wpAny_pure (h _)
theorem run_ga_dict {P : Fin → Shared → Prop} {a : Addr} {xs : Array DictEntry} {k : Nat} {sl : Array (Option Value)} {u : Tok} (hx : s.heap.get? a = some { cls := .type "dict", dict := none, data := .dict xs k, slots := sl })
    (h : P (.done (.ret (.ref s.heap.objs.size))) { s with heap := s.heap.push (boundObj "dict.get" a) }) :
    wpAny (model prog w) A (Builtin.«object.__getattribute__» ⟨[.ref a, .str "get" u], []⟩) P E s := by
  obtain ⟨hp, g, d, tk, os⟩ := s
  have hT : (⟨hp, g, d, tk, os⟩ : Shared).TypeIs (.ref a) "dict" := ⟨_, hx, rfl⟩
  have f4 := F.slot_dict_get.lookup
  have f5 := F.type_dict_get
  have f6 := BM.slot_get.lookup
  have f7 := BM.no_set
  have f8 := BM.no_delete
  unfold Builtin.«object.__getattribute__»
  repeat (any_goals (first | assumption | wp_step))
  exact call_get_bound (name := "get") ⟨by decide +kernel, by rw [isSubtype_type]; kernel_rfl, by decide +kernel⟩ F.type_dict_get hx rfl (wpAny_pure h)
theorem getAttr_dict {Q : Value → Shared → Prop} {a : Addr} {o : Obj} (ho : s.heap.get? a = some o) (hc : o.cls = .type "dict") (hd : o.dict = none) (hdat : ∃ xs k, o.data = .dict xs k)
    (h : ∀ tk, Q (.ref s.heap.objs.size) { s with heap := s.heap.push (boundObj "dict.get" a), toks := tk }) : wpAny (model prog w) A (getAttr (.ref a) "get" true) Q E s := by
  obtain ⟨c, dct, dat, sl⟩ := o
  obtain ⟨xs, k, hdat⟩ := hdat
  dsimp only at hc hd hdat
  subst hc hd hdat
  obtain ⟨hp, g, d, tk, os⟩ := s
  have hT : ∀ tk', (⟨hp, g, d, tk', os⟩ : Shared).TypeIs (.ref a) "dict" := fun _ => ⟨_, ho, rfl⟩
  have f3 := F.slot_dict_getattribute.lookup
  have f4 := F.slot_dict_getattribute.bind (.ref a)
  unfold getAttr getAttrBy
  repeat (any_goals (first | assumption | exact hT _ | wp_step))
  refine codeAny_call_builtin F.slot_dict_getattribute.plain F.entry_dict_ga (F.slot_dict_getattribute.check _ _ _ _ _ _ _ _ (hT _) (F.args_dict_getattribute_2 _ _) (run_ga_dict (s := ⟨hp, g, d, tk + 1, os⟩) ho ?_))
  show wpAny _ _ (handedOut _) _ _ _
  rw [PySem.W.handedOut_of (show PySem.W.handedIn (.ref _) = true from rfl)]
  exact wpAny_pure (h _)
theorem run_ga_set {P : Fin → Shared → Prop} {a : Addr} {xs : Array (Int × Value)} {k : Nat} {t : SetTable} {sl : Array (Option Value)} {u : Tok} (hx : s.heap.get? a = some { cls := .type "set", dict := none, data := .set xs k t, slots := sl })
    (h : P (.done (.ret (.ref s.heap.objs.size))) { s with heap := s.heap.push (boundObj "set.__contains__" a) }) :
    wpAny (model prog w) A (Builtin.«object.__getattribute__» ⟨[.ref a, .str "__contains__" u], []⟩) P E s := by
  obtain ⟨hp, g, d, tk, os⟩ := s
  have hT : (⟨hp, g, d, tk, os⟩ : Shared).TypeIs (.ref a) "set" := ⟨_, hx, rfl⟩
  have f4 := F.slot_set_contains.lookup
  have f5 := F.type_set_contains
  have f6 := BM.slot_get.lookup
  have f7 := BM.no_set
  have f8 := BM.no_delete
  unfold Builtin.«object.__getattribute__»
  repeat (any_goals (first | assumption | wp_step))
  exact call_get_bound (name := "__contains__") ⟨by decide +kernel, by rw [isSubtype_type]; kernel_rfl, by decide +kernel⟩ F.type_set_contains hx rfl (wpAny_pure h)
theorem getAttr_set {Q : Value → Shared → Prop} {a : Addr} {o : Obj} (ho : s.heap.get? a = some o) (hc : o.cls = .type "set") (hd : o.dict = none) (hdat : ∃ xs k t, o.data = .set xs k t)
    (h : ∀ tk, Q (.ref s.heap.objs.size) { s with heap := s.heap.push (boundObj "set.__contains__" a), toks := tk }) : wpAny (model prog w) A (getAttr (.ref a) "__contains__" true) Q E s := by
  obtain ⟨c, dct, dat, sl⟩ := o
  obtain ⟨xs, k, t, hdat⟩ := hdat
  dsimp only at hc hd hdat
  subst hc hd hdat
  obtain ⟨hp, g, d, tk, os⟩ := s
  have hT : ∀ tk', (⟨hp, g, d, tk', os⟩ : Shared).TypeIs (.ref a) "set" := fun _ => ⟨_, ho, rfl⟩
  have f3 := F.slot_set_getattribute.lookup
  have f4 := F.slot_set_getattribute.bind (.ref a)
  unfold getAttr getAttrBy
  repeat (any_goals (first | assumption | exact hT _ | wp_step))
  refine codeAny_call_builtin F.slot_set_getattribute.plain F.entry_set_ga (F.slot_set_getattribute.check _ _ _ _ _ _ _ _ (hT _) (F.args_set_getattribute_2 _ _) (run_ga_set (s := ⟨hp, g, d, tk + 1, os⟩) ho ?_))
  show wpAny _ _ (handedOut _) _ _ _
  rw [PySem.W.handedOut_of (show PySem.W.handedIn (.ref _) = true from rfl)]
  exact wpAny_pure (h _)
end
end
section
open PySem PySem.W PySem.Calls PySem.Spec PyProof PyProof.Rows
section
variable {prog : Program} {w : World} {A : Around} {E : Value → Shared → Prop} {s : Shared}
theorem if_not {α : Type} {M : Model} {A : Around} {E : Value → Shared → Prop} {s : Shared} {c : Bool} {a b : Sem α} {Q : α → Shared → Prop} (hc : c = false) (h : wpAny M A b Q E s) : wpAny M A (if c = true then a else b) Q E s := by
  subst hc
  exact h
theorem if_yes {α : Type} {M : Model} {A : Around} {E : Value → Shared → Prop} {s : Shared} {c : Bool} {a b : Sem α} {Q : α → Shared → Prop} (hc : c = true) (h : wpAny M A a Q E s) : wpAny M A (if c = true then a else b) Q E s := by
  subst hc
  exact h
theorem call_bound {id : String} {a q : Addr} {rest : List Value} {B : Builtin} {S : PySem.Spec} {Q : Value → Shared → Prop} (hq : s.heap.get? q = some (boundObj id a)) (hquiet : ∀ as, (Code.builtin id as).quiet = true) (entry : entryFor table id = some B)
    (chk : ∀ {A' : Around} {Q' : Unit → Shared → Prop} {E' : Value → Shared → Prop}, Q' () s → wpAny (model prog w) A' (checkBoundCall id ⟨.ref a :: rest, []⟩) Q' E' s) (hpl : plainId id = true)
    (g : MeetsIn prog w (B ⟨.ref a :: rest, []⟩) S) (h : S A (wants Q E) s) : wpAny (model prog w) A (call (.ref q) rest) Q E s := by
  refine wpAny_call (codeAny_of_tree ?_)
  show wpAny _ A.in1 (callAny (.ref q) ⟨rest, []⟩) _ _ s
  simp only [callAny]
  refine wpAny_bind (wpAny_load hq ?_)
  refine if_yes (by rfl) ?_
  refine if_yes (by rfl) ?_
  refine wpAny_bind (chk ?_)
  refine wpAny_bind (wpAny_pure (wpAny_pure ?_))
  refine ⟨hquiet _, codeAny_builtin entry ?_⟩
  rw [Around.under_plainId hpl _]
  exact g A (wants Q E) s h
theorem sub_module (T : String) (h : isSubtype (.type T) (.type "module") = pure false) {id : String} {sig : Manifest.Signature} {a : Addr} {rest : List Value} {A' : Around} {Q' : Unit → Shared → Prop} {E' : Value → Shared → Prop} {o : Obj}
    (ho : s.heap.get? a = some o) (hc : o.cls = .type T) (hnc : (match o.data with | .cls _ => true | _ => false) = false) (hsig : Manifest.signature? id = some sig) (hk : builtinKind id = some .method) (hv : Manifest.varargsMethods.contains id = false)
    (hchk : Bind.checkArgs id { sig with full := s!"{Bind.lastOf T}.{Bind.lastOf id}" } ⟨.ref a :: rest, []⟩ = pure ()) (hq : Q' () s) :
    wpAny (model prog w) A' (checkBoundCall id ⟨.ref a :: rest, []⟩) Q' E' s := by
  have hT : s.TypeIs (.ref a) T := ⟨_, ho, hc⟩
  unfold checkBoundCall
  simp only [hsig, hk]
  rw [if_neg (by decide)]
  refine wpAny_bind (wpAny_isInstance hT h ?_)
  rw [if_neg (by rw [hv]; exact Bool.false_ne_true)]
  refine wpAny_bind ?_
  unfold isType
  refine wpAny_bind (wpAny_loadPart ho ?_)
  refine wpAny_pure ?_
  refine if_not hnc ?_
  refine wpAny_bind (wpAny_typeOf hT ?_)
  dsimp only
  exact wpAny_of_eq hchk hq
theorem list_no_module : isSubtype (.type "list") (.type "module") = pure false := by rw [isSubtype_type]; kernel_rfl
theorem dict_no_module : isSubtype (.type "dict") (.type "module") = pure false := by rw [isSubtype_type]; kernel_rfl
theorem set_no_module : isSubtype (.type "set") (.type "module") = pure false := by rw [isSubtype_type]; kernel_rfl
theorem chk_append {a : Addr} {v : Value} {A' : Around} {Q' : Unit → Shared → Prop} {E' : Value → Shared → Prop} {its : Array Value} {k : Nat} (ho : s.heap.get? a = some (PySem.W.listOf its k)) (hq : Q' () s) :
    wpAny (model prog w) A' (checkBoundCall "list.append" ⟨[.ref a, v], []⟩) Q' E' s := by
  refine sub_module "list" list_no_module (sig := ⟨.oneArg, "list.append", "append", .self, [⟨"object", .posOnly, true⟩]⟩) ho rfl rfl ?_ (by decide +kernel) (by decide +kernel) ?_ hq
  · kernel_rfl
  · kernel_rfl
theorem sig_contains : Manifest.signature? "set.__contains__" = some ⟨.oneArg, "set.__contains__", "__contains__", .self, [⟨"object", .posOnly, true⟩]⟩ := by
  rw [signature?_of (id := "set.__contains__") (n := ['_', '_', 's', 'n', 'i', 'a', 't', 'n', 'o', 'c', '_', '_']) (o := ['t', 'e', 's']) (by kernel_rfl) F.owner_set]; kernel_rfl
theorem kind_contains : builtinKind "set.__contains__" = some .method := by decide +kernel
theorem var_contains : Manifest.varargsMethods.contains "set.__contains__" = false := by decide +kernel
theorem chk_contains {a : Addr} {v : Value} {A' : Around} {Q' : Unit → Shared → Prop} {E' : Value → Shared → Prop} {o : Obj} (ho : s.heap.get? a = some o) (hc : o.cls = .type "set") (hnc : (match o.data with | .cls _ => true | _ => false) = false) (hq : Q' () s) :
    wpAny (model prog w) A' (checkBoundCall "set.__contains__" ⟨[.ref a, v], []⟩) Q' E' s := by
  have e1 := set_no_module
  have e2 := sig_contains
  have e3 := kind_contains
  have e4 := var_contains
  generalize hid : "set.__contains__" = id at e2 e3 e4 ⊢
  refine sub_module "set" e1 ho hc hnc e2 e3 e4 ?_ hq
  subst hid
  kernel_rfl
theorem chk_get {a : Addr} {v d : Value} {A' : Around} {Q' : Unit → Shared → Prop} {E' : Value → Shared → Prop} {o : Obj} (ho : s.heap.get? a = some o) (hc : o.cls = .type "dict") (hnc : (match o.data with | .cls _ => true | _ => false) = false) (hq : Q' () s) :
    wpAny (model prog w) A' (checkBoundCall "dict.get" ⟨[.ref a, v, d], []⟩) Q' E' s := by
  refine sub_module "dict" dict_no_module (sig := ⟨.positional, "dict.get", "get", .self, [⟨"key", .posOnly, true⟩, ⟨"default", .posOnly, false⟩]⟩) ho hc hnc ?_ (by decide +kernel) (by decide +kernel) ?_ hq
  · kernel_rfl
  · kernel_rfl
theorem quiet_append (as : Args) : (Code.builtin "list.append" as).quiet = true := Code.quiet_builtin _ (by decide +kernel)
theorem quiet_contains (as : Args) : (Code.builtin "set.__contains__" as).quiet = true := Code.quiet_builtin _ (by decide +kernel)
theorem quiet_get (as : Args) : (Code.builtin "dict.get" as).quiet = true := Code.quiet_builtin _ (by decide +kernel)
theorem meets_contains {a : Addr} {x : Str} {u : Tok} : MeetsIn prog w (Builtin.«frozenset.__contains__» ⟨[.ref a, .str x u], []⟩) (fun _ R s => ∃ S n, s.heap.SetOf (strKind prog w) a S n ∧ R (.ok (.ret (.bool (S x)))) { s with toks := s.toks + 1 }) := by
  refine .of_wp fun A R s ⟨S, n, hS, h⟩ => ?_
  unfold Builtin.«frozenset.__contains__» Builtin.Frozenset.oneOther
  simp only [List.isEmpty_nil, bind_assoc]
  unfold Builtin.Frozenset.addrOf Builtin.Frozenset.withSetAsKey setContains
  refine wpAny_bind (wpAny_pure ?_)
  try dsimp only
  refine wpAny_bind (wpAny_pure ?_)
  try dsimp only
  refine wpAny_bind (wpAny_tryCatch ?_)
  refine wpAny_holding ?_
  refine wpAny_bind ((strKind prog w).pyHash (strKind_is _ _ _ _) ?_)
  refine wpAny_bind (wpAny_setFind_of (knd := strKind prog w) (s := { s with toks := s.toks + 1 }) (strKind_is _ _ _ _) rfl hS fun r hr => ?_)
  refine wpAny_pure ?_
  show wpAny _ _ (ret (Value.bool r.isSome)) _ _ _
  rw [hr]
  exact wpAny_pure ⟨_, rfl, h⟩
theorem call_bound_append {a q : Addr} {v : Value} {its : Array Value} {k : Nat} {Q : Value → Shared → Prop} (hq : s.heap.get? q = some (boundObj "list.append" a)) (ho : s.heap.get? a = some (PySem.W.listOf its k))
    (hsz : its.size ≤ sizeLine) (h : Q .none { s with heap := s.heap.update a (Obj.mapSeq fun x => x.push v) }) :
    wpAny (model prog w) A (call (.ref q) [v]) Q E s := by
  have g := (list_append a its k v hsz).inModel prog w
  exact call_bound hq quiet_append entry_list_append (fun hq' => chk_append ho hq') (by decide +kernel) g ⟨ho, h⟩
theorem call_bound_contains {a q : Addr} {x : Str} {u : Tok} {S : Str → Bool} {n : Nat} {Q : Value → Shared → Prop} {o : Obj} (hq : s.heap.get? q = some (boundObj "set.__contains__" a)) (ho : s.heap.get? a = some o) (hS : o.SetObjOf (strKind prog w) S n) (hn : n < scanBound)
    (h : Q (.bool (S x)) { s with toks := s.toks + 1 }) : wpAny (model prog w) A (call (.ref q) [.str x u]) Q E s := by
  have hSo := hS.setOf ho hn
  obtain ⟨hex, es, ep, t, hd, _⟩ := id hS
  have g := meets_contains (prog := prog) (w := w) (a := a) (x := x) (u := u)
  exact call_bound hq quiet_contains entry_set_contains (fun hq' => chk_contains ho hex.1 (by rw [hd]) hq') (by decide +kernel) g ⟨S, n, hSo, h⟩
theorem call_bound_get {a q : Addr} {i : Int} {u : Tok} {dflt : Value} {kvs : List (Int × Value)} {Q : Value → Shared → Prop} {o : Obj} (hq : s.heap.get? q = some (boundObj "dict.get" a)) (ho : s.heap.get? a = some o) (hD : o.IsDictOf (intKind prog w) kvs) (hs : (a == sysModules) = false)
    (h : Q ((valueAt kvs i).getD dflt) { s with toks := s.toks + 1 }) : wpAny (model prog w) A (call (.ref q) [.int i u, dflt]) Q E s := by
  have hm := (Heap.dictOf_iff.mpr ⟨o, ho, hD⟩ : s.heap.DictOf (intKind prog w) a kvs).mapOf
  obtain ⟨es, ep, hex, hd, _⟩ := id hD
  have g := meets_dict_get_default (intKind prog w) (k := i) (key := .int i u) a (intKind_is _ _ _ _) hs dflt
  exact call_bound hq quiet_get F.entry_dict_get (fun hq' => chk_get ho hex.1 (by rw [hd]) hq') (by decide +kernel) g ⟨_, hm, h⟩
end
end
section
open PySem PySem.W PySem.Calls PySem.Spec PyProof PyProof.Rows
section
variable {prog : Program} {w : World} {A : Around} {E : Value → Shared → Prop} {s : Shared} {h₀ : Heap} {L a : Addr} {m : Str → Option Value} {news : List (Addr × Obj)} {o : Obj}
theorem bound_set_K {K : Type} [DecidableEq K] [BEq K] [LawfulBEq K] {knd : KeyKind prog w K} {S : K → Bool} {n : Nat} {Q : Value → Shared → Prop} (F : Fr h₀ L s.heap m) (N : News h₀ L s.heap news) (hm : (a, o) ∈ news) (hS : o.SetObjOf knd S n)
    (h : ∀ q h' tk, Fr h₀ L h' m → News h₀ L h' ((q, boundObj "set.__contains__" a) :: news) → (∀ p ∈ news, p.1 < q) → Q (.ref q) { s with heap := h', toks := tk }) : wpAny (model prog w) A (getAttr (.ref a) "__contains__" true) Q E s := by
  obtain ⟨hex, es, ep, t, hd, _⟩ := hS
  exact getAttr_set (N _ hm).1 hex.1 hex.2.1 ⟨_, _, _, hd⟩ fun tk => h _ _ tk (F.push _) (N.push F _) fun p hp => Heap.lt_size (N p hp).1
theorem bound_dict_K {knd : KeyKind prog w Int} {kvs : List (Int × Value)} {Q : Value → Shared → Prop} (F : Fr h₀ L s.heap m) (N : News h₀ L s.heap news) (hm : (a, o) ∈ news) (hD : o.IsDictOf knd kvs)
    (h : ∀ q h' tk, Fr h₀ L h' m → News h₀ L h' ((q, boundObj "dict.get" a) :: news) → (∀ p ∈ news, p.1 < q) → Q (.ref q) { s with heap := h', toks := tk }) : wpAny (model prog w) A (getAttr (.ref a) "get" true) Q E s := by
  obtain ⟨es, ep, hex, hd, _⟩ := hD
  exact getAttr_dict (N _ hm).1 hex.1 hex.2.1 ⟨_, _, hd⟩ fun tk => h _ _ tk (F.push _) (N.push F _) fun p hp => Heap.lt_size (N p hp).1
theorem bound_list_K {its : Array Value} {k : Nat} {Q : Value → Shared → Prop} (F : Fr h₀ L s.heap m) (N : News h₀ L s.heap news) (hm : (a, W.listOf its k) ∈ news)
    (h : ∀ q h' tk, Fr h₀ L h' m → News h₀ L h' ((q, boundObj "list.append" a) :: news) → (∀ p ∈ news, p.1 < q) → Q (.ref q) { s with heap := h', toks := tk }) : wpAny (model prog w) A (getAttr (.ref a) "append" true) Q E s :=
  getAttr_list (N _ hm).1 rfl rfl ⟨_, _, rfl⟩ fun tk => h _ _ tk (F.push _) (N.push F _) fun p hp => Heap.lt_size (N p hp).1
noncomputable def BoundAt (u : Addr) (id : String) (a : Addr) (h : Heap) : Prop := h.get? u = some (boundObj id a)
theorem BoundAt.of {u : Addr} {id : String} {h : Heap} (N : News h₀ L h news) (hm : (u, boundObj id a) ∈ news) : BoundAt u id a h := N.get hm
variable {M : Model}
theorem callWith_B {pos : Pos} {u : Addr} {id : String} {first : List Value} {args : List (Bool × Sem Value)} {Q : Value → Shared → Prop} (hplain : args.any (·.1) = false)
    (h : wpAny M A (evalArgs (.ref u) true args []) (fun x s₁ => BoundAt u id a s₁.heap ∧ wpAny M A (call (.ref u) (first ++ x.pos) x.kw) Q E s₁) E s) : wpAny M A (callWith pos (.ref u) first args []) Q E s := by
  unfold callWith
  refine wpAny_bind (wpAny_holding (wpAny_mono h (fun x s₁ h₁ => wpAny_bind (wpAny_standAt ?_)) fun _ _ x => x))
  obtain ⟨ho, hcall⟩ := h₁
  simp only [hplain, List.any_nil, Bool.or_false]
  refine wpAny_bind (m := keeperOf (.ref u)) ?_
  unfold keeperOf
  refine wpAny_bind (wpAny_load ho ?_)
  refine if_yes (by rfl) ?_
  refine wpAny_pure ?_
  exact wpAny_bind (wpAny_mono hcall (fun r s₂ hr => wpAny_bind (wpAny_holding (wpAny_point (wpAny_pure hr)))) fun _ _ x => x)
theorem callWith_bound {pos : Pos} {u : Addr} {id : String} {first : List Value} {env : Env} {e : Expr} {rest : List Expr} {Q : Value → Shared → Prop} (_N : News h₀ L s.heap news) (_hm : (u, boundObj id a) ∈ news)
    (h : wpAny M A (spliced (backTo pos (starEach (e :: rest) env))) (fun vs s₁ => BoundAt u id a s₁.heap ∧ wpAny M A (call (.ref u) (first ++ vs)) Q E s₁) E s)
    (he : autoParam (starEach (e :: rest) env = (false, eval e env) :: starEach rest env) tR) (hplain : autoParam ((backTo pos (starEach rest env)).any (·.1) = false) tR) :
    wpAny M A (callWith pos (.ref u) first (backTo pos (starEach (e :: rest) env)) []) Q E s := by
  rw [he] at h ⊢
  refine callWith_B (id := id) (a := a) (by show (false || (backTo pos (starEach rest env)).any (·.1)) = false; rw [hplain]; rfl) ?_
  exact evalArgs_plain h
end
section
variable {prog : Program} {w : World} {A : Around} {E : Value → Shared → Prop} {s : Shared} {h₀ : Heap} {L a : Addr} {m : Str → Option Value} {news : List (Addr × Obj)} {o : Obj}
theorem boundCall_contains {q : Addr} {x : Str} {u : Tok} {S : Str → Bool} {n : Nat} {Q : Value → Shared → Prop} (N : News h₀ L s.heap news) (hq : (q, boundObj "set.__contains__" a) ∈ news) (hm : (a, o) ∈ news) (hS : o.SetObjOf (strKind prog w) S n) (hn : n < scanBound)
    (h : ∀ tk, Q (.bool (S x)) { s with toks := tk }) : wpAny (model prog w) A (call (.ref q) [.str x u]) Q E s :=
  call_bound_contains (N.get hq) (N.get hm) hS hn (h _)
theorem boundCall_get {q : Addr} {i : Int} {u : Tok} {dflt : Value} {kvs : List (Int × Value)} {Q : Value → Shared → Prop} (N : News h₀ L s.heap news) (hq : (q, boundObj "dict.get" a) ∈ news) (hm : (a, o) ∈ news) (hD : o.IsDictOf (intKind prog w) kvs) (hs : (a == sysModules) = false)
    (h : ∀ tk, Q ((valueAt kvs i).getD dflt) { s with toks := tk }) : wpAny (model prog w) A (call (.ref q) [.int i u, dflt]) Q E s :=
  call_bound_get (N.get hq) (N.get hm) hD hs (h _)
end
end
section
open PySem PySem.W PySem.Calls PySem.Spec PyProof PyProof.Rows
section
variable {w : World} {cs : Scope} {C : Cx w cs} {kp : List (Addr × Obj)} {f : SF} {n : SL} {Q : Flow → Shared → Prop} {x : Str} {pos p2 p3 p4 : Pos} {rest : List Stmt} {α : Type} {R : SV → SL → Prop}
inductive UseI (h₀ : Heap) (L : Addr) (xm : XM) (kp : List (Addr × Obj)) (f : SF) (n : SL) (h : Heap) : Prop
  | mk (m : Str → Option Value) (news : List (Addr × Obj)) (F : Fr h₀ L h m) (R : FrR xm f m) (N : News h₀ L h news) (at' : ∀ D P, (D, P) ∈ n → MemI news D P)
    (add : ∀ h' D' o' (P' : Obj → Prop), Fr h₀ L h' m → News h₀ L h' ((D', o') :: news) → (∀ p ∈ news, p.1 < D') → P' o' → StS h₀ L xm kp f ((D', P') :: n) h') (same : ∀ h', Fr h₀ L h' m → News h₀ L h' news → StS h₀ L xm kp f n h')
theorem StS.use {h₀ h : Heap} {L : Addr} {xm : XM} (S : StS h₀ L xm kp f n h) : UseI h₀ L xm kp f n h := by
  obtain ⟨m, F, R⟩ := S.fr
  obtain ⟨nw, N, K⟩ := S.nw
  refine ⟨m, nw ++ kp, F, R, N, fun D P hm => ?_, fun h' D' o' P' F' N' fr hP => .cons F' R N' K S.nd S.off hP fr, fun h' F' N' => .mk' F' R N' K S.nd S.off⟩
  obtain ⟨o, h1, h2⟩ := K.mem hm
  exact ⟨o, List.mem_append_left _ h1, h2⟩
def Over (C : Cx w cs) (kp : List (Addr × Obj)) (f : SF) (n : SL) (x : Str) (body : List Stmt) (Q : Flow → Shared → Prop) (r : Addr) : Prop :=
  ∀ (h : Heap) (t : Nat), C.St kp f n h → wpAny (model pw w) C.A (pyIter (.ref r)) (fun it s₂ => LoopAtV pw w C.A C.s.heap C.env x body Q C.E it s₂) C.E (C.at h t)
inductive ForE (C : Cx w cs) (kp : List (Addr × Obj)) (f : SF) (x : Str) (body : List Stmt) (Q : Flow → Shared → Prop) (a : SV) (n : SL) : Prop
  | mk (r : Addr) (e : a = .val (.ref r)) (k : Over C kp f n x body Q r)
theorem g_forX {it : Expr} {body : List Stmt} (d : EvX C kp f n it (ForE C kp f x body (Seq C Q rest))) (hx : autoParam (isLoc cs x = true) tR) (hs : ∀ y, foldedSetIterable it C.env y = pure y := by exact fun _ => rfl) :
    G C kp f n Q (.For (.Name x p2) it body [] pos :: rest) := .mk fun h t S =>
  wpAny_execs_cons (For_invV C.s.heap (loc_of hx).1 (par_ok C.hk) (d _ _ _ S fun v a n' h' t' hr ha S' => by
    obtain ⟨r, rfl, k⟩ := hr
    cases ha
    exact k h' t' S') hs C.hE)
theorem over_core {body : List Stmt} {r : Addr} {as : List SV} {vs : List Value} {h : Heap} {t : Nat} (hls : h.IsList r vs.toArray) (hr : r ∈ kp.map (·.1) ∨ ∃ o, C.s.heap.get? r = some o) (has : AllIs as vs) (J : Nat → α → Prop) (fr : Nat → α → SF) (ow : Nat → α → SL) (a₀ : α) (hj : J 0 a₀)
    (turn : ∀ i b c own, as[i]? = some c → J i b → ∀ Q', (∀ fl s', LPost C (own ++ kp) J fr ow (i + 1) Q fl s' → Q' fl s') → G C (own ++ kp) ((x, c) :: fr i b) (ow i b) Q' body)
    (done : ∀ b h t, J as.length b → C.St kp (fr as.length b) (ow as.length b) h → Q .next (C.at h t)) (S : C.St kp (fr 0 a₀) (ow 0 a₀) h) :
    wpAny (model pw w) C.A (pyIter (.ref r)) (fun it s₂ => LoopAtV pw w C.A C.s.heap C.env x body Q C.E it s₂) C.E (C.at h t) := by
  obtain ⟨m, F, _⟩ := S.fr
  obtain ⟨ol, hol, _⟩ := id hls
  have hne : r ≠ h.objs.size := Nat.ne_of_lt (Heap.lt_size hol)
  refine wpAny_pyIter_list (s := C.at h t) hls ?_
  have hsz : vs.toArray.size = as.length := by rw [List.size_toArray, has.length]
  refine loopS (Q := Q) J fr ow (fun i => (as[i]?).getD (.val .none)) a₀ (hsz ▸ (Walks.list (prog := pw) (w := w) C.hh h.objs.size r hne vs.toArray)) (fun hm => ?_) (fun b hb => ?_) (fun b hb => ?_) (fun b hb => ?_) (fun i h st b hb => ?_) ⟨⟨_, Heap.get?_push_size _ (by rfl), rfl, rfl⟩, hls.at fun o e => Heap.get?_push_of_some _ e⟩ (S.push _) hj (fun i v hi hv => ?_) (fun i b own hi hj => ?_) done
  · rcases List.mem_cons.mp hm with e | hm
    · exact absurd F.ns.lt (e ▸ Nat.lt_irrefl _)
    · have hm := List.mem_singleton.mp hm
      rcases hr with hr | ⟨o, hr⟩
      · obtain ⟨p, hp, e⟩ := List.mem_map.mp hr
        obtain ⟨nw, N, _⟩ := S.nw
        exact (N p (List.mem_append_right _ hp)).2.1 (e.trans hm.symm)
      · exact absurd (Nat.lt_of_lt_of_le (Heap.lt_size hr) F.above) (hm ▸ Nat.lt_irrefl _)
  · rw [List.mem_singleton.mp hb]; exact S.new.2.2.1
  · rcases List.mem_cons.mp hb with e | hm
    · rw [e]; exact .inl (.head _)
    · rw [List.mem_singleton.mp hm]; exact .inr hr
  · rw [List.mem_singleton.mp hb]; exact ⟨S.new.1, S.new.2.1⟩
  · rw [List.mem_singleton.mp hb]; exact (live_iter st).1
  · obtain ⟨a, ha⟩ : ∃ a, as[i]? = some a := ⟨_, List.getElem?_eq_getElem hi⟩
    obtain ⟨u, h1, h2⟩ := has.get ha
    rw [ha]
    have : u = v := by
      have := hv
      simp only [List.getElem?_toArray] at this
      rw [h1] at this
      exact Option.some.inj this
    exact this ▸ h2
  · have ha : as[i]? = some as[i] := List.getElem?_eq_getElem hi
    have := turn i b _ own ha hj
    rw [show (as[i]?).getD (.val .none) = as[i] by rw [ha]; rfl]
    exact this
theorem over_base {body : List Stmt} {r : Addr} {as : List SV} {vs : List Value} (hl : C.s.heap.IsList r vs.toArray) (has : AllIs as vs) (J : Nat → α → Prop) (fr : Nat → α → SF) (ow : Nat → α → SL) (a₀ : α) (hj : J 0 a₀)
    (turn : ∀ i b c own, as[i]? = some c → J i b → ∀ Q', (∀ fl s', LPost C (own ++ kp) J fr ow (i + 1) (Seq C Q rest) fl s' → Q' fl s') → G C (own ++ kp) ((x, c) :: fr i b) (ow i b) Q' body)
    (done : ∀ b, J as.length b → G C kp (fr as.length b) (ow as.length b) Q rest) (ef : autoParam (fr 0 a₀ = f) tR) (en : autoParam (ow 0 a₀ = n) tR) : Over C kp f n x body (Seq C Q rest) r := fun h t S => by
  subst ef en
  obtain ⟨m, F, _⟩ := S.fr
  obtain ⟨ol, hol, _⟩ := id hl
  exact over_core (hl.at fun o e => F.keep r o e) (.inr ⟨_, hol⟩) has J fr ow a₀ hj turn (fun b h t hj S => (done b hj).run h t S) S
inductive FreezeI (h₀ : Heap) (L : Addr) (xm : XM) (kp : List (Addr × Obj)) (f : SF) (n : SL) (h : Heap) (r : Addr) (P : Obj → Prop) : Prop
  | mk (h1 : r ∉ n.map (·.1)) (h2 : r ∉ kp.map (·.1)) (o : Obj) (ho : P o) (hg : h.get? r = some o) (S' : StS h₀ L xm ((r, o) :: kp) f n h)
theorem StS.freeze {h₀ h : Heap} {L r : Addr} {xm : XM} {P : Obj → Prop} (S : StS h₀ L xm kp f ((r, P) :: n) h) : FreezeI h₀ L xm kp f n h r P := by
  obtain ⟨nw, N, K⟩ := S.nw
  have nd := List.nodup_cons.mp S.nd
  obtain _ | ⟨q, nw⟩ := nw
  · exact K.elim
  obtain ⟨a, o⟩ := q
  obtain ⟨rfl, hP, K⟩ := K
  refine ⟨nd.1, fun hm => ?_, o, hP, (N _ (.head _)).1, S.fr, ⟨nw, fun p hp => N p ?_, K⟩, nd.2, fun p hp => ?_⟩
  · obtain ⟨p, hp, e⟩ := List.mem_map.mp hm
    exact S.off p hp (e ▸ .head _)
  · rcases List.mem_append.mp hp with hp | hp
    · exact List.mem_append_left _ (.tail _ hp)
    · rcases List.mem_cons.mp hp with rfl | hp
      · exact .head _
      · exact List.mem_append_right _ hp
  · rcases List.mem_cons.mp hp with rfl | hp
    · exact nd.1
    · exact fun hm => S.off p hp (.tail _ hm)
theorem StS.thaw {h₀ h : Heap} {L r : Addr} {xm : XM} {P : Obj → Prop} {o : Obj} (S : StS h₀ L xm ((r, o) :: kp) f n h) (hP : P o) (h2 : r ∉ kp.map (·.1)) : StS h₀ L xm kp f ((r, P) :: n) h := by
  obtain ⟨nw, N, K⟩ := S.nw
  refine ⟨S.fr, ⟨(r, o) :: nw, fun p hp => N p ?_, rfl, hP, K⟩, List.nodup_cons.mpr ⟨S.off _ (.head _), S.nd⟩, fun p hp hm => ?_⟩
  · rcases List.mem_cons.mp hp with rfl | hp
    · exact List.mem_append_right _ (.head _)
    · rcases List.mem_append.mp hp with hp | hp
      · exact List.mem_append_left _ hp
      · exact List.mem_append_right _ (.tail _ hp)
  · rcases List.mem_cons.mp hm with e | hm
    · exact h2 (List.mem_map.mpr ⟨p, hp, e⟩)
    · exact S.off p (.tail _ hp) hm
theorem over_own {body : List Stmt} {r : Addr} {as : List SV} {P : Obj → Prop} (hP : ∀ o, P o → oLst as o) (J : Nat → α → Prop) (fr : Nat → α → SF) (ow : Nat → α → SL) (a₀ : α) (hj : J 0 a₀)
    (turn : ∀ i b c own, as[i]? = some c → J i b → ∀ Q', (∀ fl s', LPost C (own ++ kp) J fr ow (i + 1) (Seq C Q rest) fl s' → Q' fl s') → G C (own ++ kp) ((x, c) :: fr i b) (ow i b) Q' body)
    (done : ∀ b, J as.length b → G C kp (fr as.length b) ((r, P) :: ow as.length b) Q rest) (ef : autoParam (fr 0 a₀ = f) tR) (en : autoParam ((r, P) :: ow 0 a₀ = n) tR) : Over C kp f n x body (Seq C Q rest) r := fun h t S => by
  subst ef en
  obtain ⟨h1, h2, o, ho, hg, S'⟩ := S.freeze
  obtain ⟨vs, k, has, e⟩ := hP o ho
  refine over_core (kp := (r, o) :: kp) ⟨o, hg, by rw [e]; exact ⟨rfl, k, rfl⟩⟩ (.inl (.head _)) has J fr ow a₀ hj (fun i b c own hc hj => ?_) (fun b h t hj S => (done b hj).run h t (S.thaw ho h2)) S'
  have := turn i b c (own ++ [(r, o)]) hc hj
  rw [List.append_assoc] at this
  exact this
end
end
section
open PySem PySem.W PySem.Calls PySem.Spec PyProof PyProof.Rows
theorem length_toList (f : Str) : f.cps.toList.length = f.length := by simp [Str.length]
section
variable {w : World} {cs : Scope} {md : Bool} {C : CxU w cs md} {kp : List (Addr × Obj)} {f : SF} {n : SL} {pos p2 : Pos}
theorem tst_use {e : Expr} {p q : Prop} (h : Tst C kp f n e p) (hpq : p ↔ q) : Tst C kp f n e q := fun _ _ _ S k => h _ _ _ S fun b _ _ hb S1 => k b _ _ (hb.trans hpq) S1
theorem tstW_nil {p : Pos} : TstW C kp f n (.BoolOp .And [] p) True := fun _ _ _ _ S q => isTrue_and_nil (q _ _ _ ⟨fun _ => trivial, fun _ => rfl⟩ S)
theorem tstW_and {e : Expr} {es : List Expr} {p q : Prop} (h : Tst C kp f n e p) (h2 : p → TstW C kp f n (.BoolOp .And es pos) q) : TstW C kp f n (.BoolOp .And (e :: es) pos) (p ∧ q) := tst_and h h2
theorem TstW.t {e : Expr} {p : Prop} (h : TstW C kp f n e p) : Tst C kp f n e p := fun _ _ _ S q => h _ _ _ _ S q
theorem tst_isNot {l : Expr} {a : SV} {b : Bool} {i : Nat} (d : Ev C kp f n l a) (hb : noneP a = some b) : Tst C kp f n (.Compare l [.IsNot] [.Constant .none i p2] pos) (b = false) :=
  tst_cmp d ev_none (by decide) (by decide) fun u v s Q i1 i2 k => by cases i2; exact PyProof.Rows.isnot_none_gen (k _ (by rw [noneP_ok hb i1]; cases b <;> simp))
end
section
variable {w : World} {cs : Scope} {C : Cx w cs} {kp : List (Addr × Obj)} {f : SF} {n : SL} {Q : Flow → Shared → Prop} {x : Str} {pos p2 p3 p4 : Pos} {rest : List Stmt} {α : Type} {R : SV → SL → Prop}
inductive oDI (w : World) (T : List (Int × Value) → Prop) (o : Obj) : Prop
  | mk (kvs : List (Int × Value)) (hT : T kvs) (hD : o.IsDictOf (intKind pw w) kvs)
theorem oDI.weak {w : World} {T T' : List (Int × Value) → Prop} (h : ∀ kvs, T kvs → T' kvs) (o : Obj) (ho : oDI w T o) : oDI w T' o := by
  obtain ⟨kvs, h1, h2⟩ := ho
  exact ⟨kvs, h kvs h1, h2⟩
theorem EvX.dict0 {P : Obj → Prop} (hP : ∀ o, o.IsDictOf (strKind pw w) [] → o.IsDictOf (intKind pw w) [] → P o) (k : ∀ D, (D == sysModules) = false → R (.val (.ref D)) ((D, P) :: n)) : EvX C kp f n (.Dict [] [] pos) R := fun _ h t S q => by
  obtain ⟨m, news, F, _, N, _, add, _⟩ := S.use
  obtain ⟨X, mg, mb, mean, T⟩ := C_inI C
  exact newDict_K (s := C.at h t) F N (topRead_of T).nolimit fun D h' o F' N' lt lo a _ b _ => q _ _ _ h' t (k D lo) rfl (add h' D o P F' N' lt (hP o a b))
theorem EvX.bindGet {y : Str} {D : Addr} {P : Obj → Prop} (hy : lkS y f = some (.val (.ref D))) (hm : (D, P) ∈ n) (hP : ∀ o, P o → ∃ kvs, o.IsDictOf (intKind pw w) kvs) (k : ∀ q, R (.val (.ref q)) ((q, oEq (boundObj "dict.get" D)) :: n)) (hloc : autoParam (isLoc cs y = true) tR) :
    EvX C kp f n (.Attribute (.Name y p2) "get" pos) R := fun _ _ _ S q =>
  Attribute_Name_ (ev_name hy hloc _ _ _ S fun _ h1 t1 e0 S1 => by
    cases e0
    obtain ⟨m, news, F, _, N, at', add, _⟩ := S1.use
    obtain ⟨o, h2, h3⟩ := at' _ _ hm
    obtain ⟨kvs, hD⟩ := hP o h3
    exact bound_dict_K (s := C.at h1 t1) F N h2 hD fun b h' tk F' N' lt => q _ _ _ h' tk (k b) rfl (add h' b _ _ F' N' lt rfl))
theorem EvX.bindHas {e : Expr} {D : Addr} {o : Obj} {T : Str → Bool} {i : Nat} (d : Ev C kp f n e (.val (.ref D))) (hm : (D, oEq o) ∈ n) (hS : o.SetObjOf (strKind pw w) T i) (k : ∀ q, R (.val (.ref q)) ((q, oEq (boundObj "set.__contains__" D)) :: n))
    (he : eval (.Attribute e "__contains__" pos) C.env = (do
      let o ← eval e C.env
      standAt pos.atName
      let r ← holding [o] (getAttr o "__contains__" true)
      letTemporaryGo e o r
      pure r) := by with_unfolding_all rfl) : EvX C kp f n (.Attribute e "__contains__" pos) R := fun _ _ _ S q =>
  Attribute_any_ (d _ _ _ S fun _ h1 t1 e0 S1 => by
    cases e0
    obtain ⟨m, news, F, _, N, at', add, _⟩ := S1.use
    obtain ⟨o', h2, h3⟩ := at' _ _ hm
    cases h3
    exact bound_set_K (s := C.at h1 t1) F N h2 hS fun b h' tk F' N' lt => q _ _ _ h' tk (k b) rfl (add h' b _ _ F' N' lt rfl)) he
theorem ev_dictGet {y : Str} {D : Addr} {o : Obj} {kvs : List (Str × Value)} {e1 e2 : Expr} {k : Str} {v : Value} (hy : lkS y f = some (.val (.ref D))) (hm : (D, oEq o) ∈ n) (hD : o.IsDictOf (PySem.strKind pw w) kvs) (lo : (D == sysModules) = false) (d1 : Ev C kp f n e1 (.txt k)) (d2 : Ev C kp f n e2 (.val v))
    (hloc : autoParam (isLoc cs y = true) tR) (s1 : autoParam (isStar e1 = false) tR) (s2 : autoParam (isStar e2 = false) tR)
    (he : ∃ pl, eval (.Call (.Attribute (.Name y p2) "get" p3) [e1, e2] [] pos) C.env = (do
         let ov ← eval (.Name y p2) C.env
         standAt p3.atName
         let (f, first) ← holding [ov] (getMethod ov "get" pl)
         callWith pos f first (backTo pos (starEach [e1, e2] C.env)) []) := by exact ⟨_, rfl⟩) : Ev C kp f n (.Call (.Attribute (.Name y p2) "get" p3) [e1, e2] [] pos) (.val ((valueAt kvs k).getD v)) := fun _ _ _ S q =>
  MethodCall_ (ev_name hy hloc _ _ _ S fun _ h1 t1 e0 S1 => by
    cases e0
    obtain ⟨m, news, F, _, N, at', _, _⟩ := S1.use
    obtain ⟨o', h2, h3⟩ := at' _ _ hm
    cases h3
    refine kdg_method (s := C.at h1 t1) N h2 hD ?_
    refine callWith_method1 (args_cons (d1 _ _ _ S1 fun _ h5 t5 ⟨_, u1, e1⟩ S5 => args_cons (d2 _ _ _ S5 fun _ h6 t6 e2 S6 => args_nil ?_) (star_not s2)) (star_not s1)) (star_not s1) (by rw [star_not s2]; rfl)
    subst e1
    cases e2
    obtain ⟨m, news, F, _, N, at', _, same⟩ := S6.use
    obtain ⟨o', h2, h3⟩ := at' _ _ hm
    cases h3
    have hDo : h6.DictOf (PySem.strKind pw w) D kvs := Heap.dictOf_iff.mpr ⟨_, N.get h2, hD⟩
    exact call_meetsIn (s := C.at h6 t6) PySem.F.slot_dict_get hDo.typeIs PySem.F.entry_dict_get (PySem.F.args_dict_get_3 _ _ _) (meets_dict_get_default (PySem.strKind pw w) D (strKind_is _ _ _ _) lo v) ⟨_, hDo.mapOf, q _ _ _ rfl S6⟩) he.choose_spec
theorem eval_call {fx e : Expr} {es : List Expr} {env : Env} (hn : ∃ y p, fx = .Name y p) : ∀ pos, eval (Expr.Call fx (e :: es) [] pos) env = (do let f ← eval fx env; callWith pos f [] (backTo pos (starEach (e :: es) env)) (backToKw pos (keywordEach [] env))) := fun pos => by
  obtain ⟨y, p, rfl⟩ := hn
  cases e <;> rfl
theorem ev_boundGet {y : Str} {D b : Addr} {T : List (Int × Value) → Prop} {e1 e2 : Expr} {i j : Int} {a : SV} (hy : lkS y f = some (.val (.ref b))) (hb : (b, oEq (boundObj "dict.get" D)) ∈ n) (hm : (D, oDI w T) ∈ n) (lo : (D == sysModules) = false) (d1 : Ev C kp f n e1 (.num i)) (d2 : Ev C kp f n e2 (.num j))
    (ha : ∀ kvs u, T kvs → a.Is ((valueAt kvs i).getD (.int j u))) (hloc : autoParam (isLoc cs y = true) tR) (s1 : autoParam (isStar e1 = false) tR) (s2 : autoParam (isStar e2 = false) tR) : Ev C kp f n (.Call (.Name y p2) [e1, e2] [] pos) a := fun _ _ _ S q =>
  Call_ (ev_name hy hloc _ _ _ S fun _ h1 t1 e0 S1 => by
    cases e0
    obtain ⟨m, news, F, _, N, at', _, _⟩ := S1.use
    obtain ⟨o1, h2, h3⟩ := at' _ _ hb
    cases h3
    refine callWith_bound (s := C.at h1 t1) N h2 (args_cons (d1 _ _ _ S1 fun _ h5 t5 ⟨_, e1⟩ S5 => args_cons (d2 _ _ _ S5 fun _ h6 t6 ⟨_, e2⟩ S6 => args_nil ?_) (star_not s2)) (star_not s1)) (star_not s1) (by rw [star_not s2]; rfl)
    subst e1 e2
    obtain ⟨m, news, F, _, N, at', _, same⟩ := S6.use
    obtain ⟨o1, g1, g2⟩ := at' _ _ hb
    cases g2
    obtain ⟨o2, g3, g4⟩ := at' _ _ hm
    obtain ⟨kvs, hT, hD⟩ := g4
    exact ⟨BoundAt.of N g1, boundCall_get (s := C.at h6 t6) N g1 g3 hD lo fun tk => q _ _ _ (ha kvs _ hT) S6⟩) (eval_call ⟨_, _, rfl⟩ _)
theorem tst_boundHas {y : Str} {D b : Addr} {o : Obj} {T : Str → Bool} {i : Nat} {e1 : Expr} {k : Str} (hy : lkS y f = some (.val (.ref b))) (hb : (b, oEq (boundObj "set.__contains__" D)) ∈ n) (hm : (D, oEq o) ∈ n) (hS : o.SetObjOf (strKind pw w) T i) (hi : i < scanBound) (d1 : Ev C kp f n e1 (.txt k))
    (hloc : autoParam (isLoc cs y = true) tR) (s1 : autoParam (isStar e1 = false) tR) : Tst C kp f n (.Call (.Name y p2) [e1] [] pos) (T k = true) := fun _ _ _ S q =>
  isTrue_plain (Call_ (ev_name hy hloc _ _ _ S fun _ h1 t1 e0 S1 => by
    cases e0
    obtain ⟨m, news, F, _, N, at', _, _⟩ := S1.use
    obtain ⟨o1, h2, h3⟩ := at' _ _ hb
    cases h3
    refine callWith_bound (s := C.at h1 t1) N h2 (args_cons (d1 _ _ _ S1 fun _ h5 t5 ⟨_, _, e1⟩ S5 => args_nil ?_) (star_not s1)) (star_not s1) rfl
    subst e1
    obtain ⟨m, news, F, _, N, at', _, same⟩ := S5.use
    obtain ⟨o1, g1, g2⟩ := at' _ _ hb
    cases g2
    obtain ⟨o2, g3, g4⟩ := at' _ _ hm
    cases g4
    exact ⟨BoundAt.of N g1, boundCall_contains (s := C.at h5 t5) N g1 g3 hS hi fun tk => wpAny_truthy_bool (q _ _ _ Iff.rfl S5)⟩) (eval_call ⟨_, _, rfl⟩ _))
theorem g_set2 {y : Str} {D : Addr} {T T' : List (Int × Value) → Prop} {i : Nat} {e ej : Expr} {v j : Int} (hy : lkS y ((x, .num v) :: f) = some (.val (.ref D))) (hm : n[i]? = some (D, oDI w T)) (d : Ev C kp f n e (.num v)) (dj : Ev C kp ((x, .num v) :: f) n ej (.num j)) (hlen : ∀ kvs, T kvs → kvs.length ≤ sizeLine)
    (hT : ∀ kvs u, T kvs → T' (stored kvs j (.int v u))) (k : G C kp ((x, .num v) :: f) (n.set i (D, oDI w T')) Q rest) (hx : autoParam (isLoc cs x = true) tR) (hloc : autoParam (isLoc cs y = true) tR)
    (he : autoParam ((assignEach [.Name x p2, .Subscript (.Name y p3) ej p4] C.env).map (·.2) = [assign (.Name x p2) C.env, assign (.Subscript (.Name y p3) ej p4) C.env]) tR) (hw : autoParam (swappedStores [.Name x p2, .Subscript (.Name y p3) ej p4] e C.env = pure none) tR) :
    G C kp f n Q (.Assign [.Name x p2, .Subscript (.Name y p3) ej p4] e pos :: rest) := .mk fun h t S =>
  wpAny_execs_cons (wpAny_Assign_two (d _ _ _ S fun _ h1 t1 hv S1 => by
    obtain ⟨u, rfl⟩ := hv
    refine assign_Name (st_store (a := .num v) S1 ⟨u, rfl⟩ hx fun h2 t2 S2 => ?_)
    refine kas_sub (ev_name hy hloc _ _ _ S2 fun _ h3 t3 e3 S3 => ?_)
    cases e3
    refine dj _ _ _ S3 fun _ h4 t4 e4 S4 => ?_
    obtain ⟨u4, rfl⟩ := e4
    obtain ⟨m, news, o, g, F, _, N, hP, hmem, U, _, close⟩ := S4.open hm
    obtain ⟨kvs, hTk, hD⟩ := hP
    refine kda_set (s := C.at h4 t4) F N U hD (intKind_is _ _ _ _) (hlen kvs hTk) fun h5 o5 F5 N5 hD5 => ?_
    refine k.run h5 _ (close (oDI w T') o5 h5 ⟨_, hT kvs u hTk, hD5⟩ F5 N5)) he hw)
theorem g_whileF {test : Expr} {body : List Stmt} {p : Prop} (d : Tst C kp f n test p) (hp : ¬ p) (k : G C kp f n Q rest) : G C kp f n Q (.While test body [] pos :: rest) :=
  g_while (α := Unit) (fun _ _ => True) (fun _ => f) (fun _ => n) 0 () trivial fun _ _ _ => ⟨p, d, fun h => absurd h hp, fun _ => k⟩
theorem Over.to {body : List Stmt} {r : Addr} {Q : Flow → Shared → Prop} (f' : SF) (n' : SL) (hp : Pick n' n) (k : Over C kp f' n' x body Q r) (e : (f'.map (·.1)).map (fun k => lkS k f') = (f'.map (·.1)).map fun k => lkS k f) : Over C kp f n x body Q r :=
  fun h t S => k h t ((S.frame e).pick hp)
theorem g_lbrk {J : Nat → α → Prop} {fr : Nat → α → SF} {ow : Nat → α → SL} {i : Nat} {own : List (Addr × Obj)} {r2 : List Stmt} {kp' : List (Addr × Obj)} {Q' : Flow → Shared → Prop} (hq : ∀ fl s', LPost C kp' J fr ow i (Seq C Q rest) fl s' → Q' fl s') (k : G C kp f n Q rest) : G C (own ++ kp) f n (Seq C Q' r2) [.Break pos] :=
  g_brk fun h t S => hq .brk _ (k.run h t (S.less fun p hp => List.mem_append_right _ hp))
theorem AllIs.ints {vs : List Value} {ns : List Int} (h : IntsAre vs ns) : AllIs (ns.map .num) vs := by
  induction h with
  | nil => trivial
  | cons k t _ ih => exact ⟨⟨_, rfl⟩, ih⟩
theorem EvX.attrT {y attr : Str} {X c d : Addr} {es : List DictEntry} {i : Nat} {S : Str} {u : Tok} (hl : getL attr es = some (some (.str S u))) (hb : S.length ≤ big) (k : R (.txt S) n) (hy : autoParam (lkS y f = some (.val (.ref X))) tR) (hx : (X, oEq (instObj c d)) ∈ n := by k_mem) (hd : (d, oEq (dictOf es i)) ∈ n := by k_mem) (hk : autoParam (attrIn w.params c attr = true) tK) (hloc : autoParam (isLoc cs y = true) tR) : EvX C kp f n (.Attribute (.Name y p2) attr pos) R :=
  (ev_attr (a := .txt S) hy hx hd hk hl rfl ⟨hb, _, rfl⟩ hloc).x k
theorem ev_attrV {y attr : Str} {X c d : Addr} {es : List DictEntry} {i : Nat} {v : Value} (hl : getL attr es = some (some v)) (hv : autoParam (handedIn v = true) tR) (hy : autoParam (lkS y f = some (.val (.ref X))) tR) (hx : (X, oEq (instObj c d)) ∈ n := by k_mem) (hd : (d, oEq (dictOf es i)) ∈ n := by k_mem) (hk : autoParam (attrIn w.params c attr = true) tK) (hloc : autoParam (isLoc cs y = true) tR) : Ev C kp f n (.Attribute (.Name y p2) attr pos) (.val v) :=
  ev_attr hy hx hd hk hl hv rfl hloc
theorem g_doc {y : Str} {i : Nat} (k : G C kp f n Q rest) (hi : autoParam (interactive C.env = false) tR) : G C kp f n Q (.Expr (.Constant (.str y) i p2) pos :: rest) := .mk fun h t S =>
  wpAny_execs_cons (wpAny_Expr (Calls.Constant_str (k.run h _ S)) hi rfl)
theorem g_then {st : Stmt} (J : α → Prop) (fr : α → SF) (ow : α → SL) (k : ∀ a, J a → G C kp (fr a) (ow a) Q rest) (h : (∀ a, J a → G C kp (fr a) (ow a) Q rest) → G C kp f n Q (st :: rest)) : G C kp f n Q (st :: rest) := h k
theorem prod3 {α β γ : Type} {P : α × β × γ → Prop} (h : ∀ a b c, P (a, b, c)) : ∀ x, P x := fun x => h x.1 x.2.1 x.2.2
theorem prod4 {α β γ δ : Type} {P : α × β × γ × δ → Prop} (h : ∀ a b c d, P (a, b, c, d)) : ∀ x, P x := fun x => h x.1 x.2.1 x.2.2.1 x.2.2.2
theorem le_big {x : Str} {k : Nat} (h : x.length = k) (hk : autoParam (Nat.ble k 1048576 = true) tR) : x.length ≤ big := by rw [h]; exact Nat.le_of_ble_eq_true hk
theorem AllIs.three {a b c : SV} {P : List Value → Prop} (h : ∀ u v z, a.Is u → b.Is v → c.Is z → P [u, v, z]) : ∀ vs, AllIs [a, b, c] vs → P vs
  | [], hh => hh.elim
  | [_], hh => hh.2.elim
  | [_, _], hh => hh.2.2.elim
  | [u, v, z], hh => h u v z hh.1 hh.2.1 hh.2.2.1
  | _ :: _ :: _ :: _ :: _, hh => hh.2.2.2.elim
theorem AllIs.two {a b : SV} {P : List Value → Prop} (h : ∀ u v, a.Is u → b.Is v → P [u, v]) : ∀ vs, AllIs [a, b] vs → P vs
  | [], hh => hh.elim
  | [_], hh => hh.2.elim
  | [u, v], hh => h u v hh.1 hh.2.1
  | _ :: _ :: _ :: _, hh => hh.2.2.elim
theorem AllIs.one {a : SV} {P : List Value → Prop} (h : ∀ u, a.Is u → P [u]) : ∀ vs, AllIs [a] vs → P vs
  | [], hh => hh.elim
  | [u], hh => h u hh.1
  | _ :: _ :: _, hh => hh.2.elim
theorem AllIs.four {a b c d : SV} {P : List Value → Prop} (h : ∀ u v z y, a.Is u → b.Is v → c.Is z → d.Is y → P [u, v, z, y]) : ∀ vs, AllIs [a, b, c, d] vs → P vs
  | [], hh => hh.elim
  | [_], hh => hh.2.elim
  | [_, _], hh => hh.2.2.elim
  | [_, _, _], hh => hh.2.2.2.elim
  | [u, v, z, y], hh => h u v z y hh.1 hh.2.1 hh.2.2.1 hh.2.2.2.1
  | _ :: _ :: _ :: _ :: _ :: _, hh => hh.2.2.2.2.elim
end
noncomputable def o3 (b : Nat × Nat × Nat) : Obj → Prop := oTup [.num b.1, .num b.2.1, .num b.2.2]
theorem o3_is {b : Nat × Nat × Nat} {o : Obj} (h : o3 b o) : ∃ x y z, o = tup3 b x y z := by
  obtain ⟨vs, h, rfl⟩ := h
  exact AllIs.three (a := .num b.1) (b := .num b.2.1) (c := .num b.2.2) (P := fun vs => ∃ x y z, ({ cls := .type "tuple", data := .seq vs.toArray 0 } : Obj) = tup3 b x y z) (fun u v z ⟨x, e1⟩ ⟨y, e2⟩ ⟨z', e3⟩ => ⟨x, y, z', by rw [e1, e2, e3]; rfl⟩) vs h
end
section
open PySem PySem.W PySem.Calls PySem.Spec PyProof PyProof.Rows
set_option maxRecDepth 100000
noncomputable def evalK {α : Type} (n : Nat) (lt : Nat → Nat → Bool) : KasT α → Option α
  | .ret a => some a
  | .ask i j k => if i < n ∧ j < n ∧ i ≠ j then evalK n lt (k (lt i j)) else none
theorem kas_eval {α : Type} {n : Nat} {lt : Nat → Nat → Bool} {cmp : Nat → Nat → (Bool → Shared → Prop) → Shared → Prop} {s : Shared} (hc : ∀ i j C tk, i < n → j < n → i ≠ j → (∀ tk, C (lt i j) { s with toks := tk }) → cmp i j C { s with toks := tk }) {a : α} {Q : α → Shared → Prop} :
    ∀ (t : KasT α) (tk : Nat), evalK n lt t = some a → (∀ tk, Q a { s with toks := tk }) → t.kasWp cmp Q { s with toks := tk }
  | .ret b, tk, h, q => by
    have : b = a := Option.some.inj h
    subst this
    exact q tk
  | .ask i j k, tk, h, q => by
    unfold evalK at h
    split at h
    · rename_i hb
      exact hc i j _ tk hb.1 hb.2.1 hb.2.2 fun tk => kas_eval hc (k (lt i j)) tk h q
    · cases h
noncomputable def okSort (r : List Nat) : Bool := match evalK r.length (fun i j => decide (r.getD i 0 < r.getD j 0)) (kas_sort r.length) with
  | some p => p.toList.map (fun i => r.getD i 0) == List.range r.length && p.toList.isPerm (List.range r.length)
  | none => false
theorem sort2 : ∀ a, a < 2 → ∀ b, b < 2 → [a, b].Nodup → okSort [a, b] = true := by decide +kernel
theorem sort3 : ∀ a, a < 3 → ∀ b, b < 3 → ∀ c, c < 3 → [a, b, c].Nodup → okSort [a, b, c] = true := by decide +kernel
theorem sort4 : ∀ a, a < 4 → ∀ b, b < 4 → ∀ c, c < 4 → ∀ d, d < 4 → [a, b, c, d].Nodup → okSort [a, b, c, d] = true := by decide +kernel
set_option synthInstance.maxSize 1000 in
set_option synthInstance.maxHeartbeats 2000000 in
theorem sort5 : ∀ a, a < 5 → ∀ b, b < 5 → ∀ c, c < 5 → ∀ d, d < 5 → ∀ e, e < 5 → [a, b, c, d, e].Nodup → okSort [a, b, c, d, e] = true := by decide +kernel
theorem evalK_congr {α : Type} {n : Nat} {lt lt' : Nat → Nat → Bool} (h : ∀ i j, i < n → j < n → lt i j = lt' i j) : ∀ t : KasT α, evalK n lt t = evalK n lt' t
  | .ret _ => rfl
  | .ask i j k => by
    unfold evalK
    split
    · rename_i hb
      rw [h i j hb.1 hb.2.1]
      exact evalK_congr h (k (lt' i j))
    · rfl
noncomputable def rank (xs : List Nat) (x : Nat) : Nat := xs.countP fun y => decide (y < x)
theorem countP_lt {p q : Nat → Bool} : ∀ {xs : List Nat}, (∀ y ∈ xs, p y = true → q y = true) → (∃ y ∈ xs, q y = true ∧ p y = false) → xs.countP p < xs.countP q
  | [], _, h => by obtain ⟨y, hy, _⟩ := h; cases hy
  | a :: xs, h1, h2 => by
    rw [List.countP_cons, List.countP_cons]
    have mono : xs.countP p ≤ xs.countP q := List.countP_mono_left fun y hy => h1 y (.tail _ hy)
    obtain ⟨y, hy, hq, hp⟩ := h2
    rcases List.mem_cons.mp hy with rfl | hy
    · rw [hq, hp]; simp; lia
    · have ih := countP_lt (p := p) (q := q) (fun y hy => h1 y (.tail _ hy)) ⟨y, hy, hq, hp⟩
      have := h1 a (.head _)
      cases hpa : p a with
      | false => cases q a <;> simp <;> lia
      | true => rw [this hpa]; simp; lia
theorem rank_lt {xs : List Nat} {x y : Nat} (hx : x ∈ xs) : rank xs x < rank xs y ↔ x < y := by
  constructor
  · intro h
    rcases Nat.lt_or_ge x y with h' | h'
    · exact h'
    · have : rank xs y ≤ rank xs x := List.countP_mono_left fun z _ hz => by simp at hz ⊢; lia
      lia
  · intro h
    exact countP_lt (fun z _ hz => by simp at hz ⊢; lia) ⟨x, hx, by simpa using h, by simp⟩
theorem rank_len {xs : List Nat} {x : Nat} (hx : x ∈ xs) : rank xs x < xs.length := by
  have : xs.countP (fun _ => true) = xs.length := by simp
  rw [← this]
  exact countP_lt (fun _ _ _ => rfl) ⟨x, hx, rfl, by simp⟩
theorem rank_nodup {xs : List Nat} (h : xs.Nodup) : (xs.map (rank xs)).Nodup := by
  unfold List.Nodup at h ⊢
  rw [List.pairwise_map]
  refine List.Pairwise.imp_of_mem (fun {a b} ha hb hab e => ?_) h
  rcases Nat.lt_or_gt_of_ne hab with q | q
  · have := (rank_lt (xs := xs) (y := b) ha).mpr q; lia
  · have := (rank_lt (xs := xs) (y := a) hb).mpr q; lia
theorem sort_any : ∀ {r : List Nat}, 2 ≤ r.length → r.length ≤ 5 → r.Nodup → (∀ x ∈ r, x < r.length) → okSort r = true
  | [], h, _, _, _ => absurd h (by decide)
  | [_], h, _, _, _ => by simp only [List.length_cons, List.length_nil] at h; lia
  | [a, b], _, _, hn, hl => sort2 a (hl a (by simp)) b (hl b (by simp)) hn
  | [a, b, c], _, _, hn, hl => sort3 a (hl a (by simp)) b (hl b (by simp)) c (hl c (by simp)) hn
  | [a, b, c, d], _, _, hn, hl => sort4 a (hl a (by simp)) b (hl b (by simp)) c (hl c (by simp)) d (hl d (by simp)) hn
  | [a, b, c, d, e], _, _, hn, hl => sort5 a (hl a (by simp)) b (hl b (by simp)) c (hl c (by simp)) d (hl d (by simp)) e (hl e (by simp)) hn
  | _ :: _ :: _ :: _ :: _ :: _ :: _, _, h, _, _ => by simp only [List.length_cons] at h; lia
theorem sort_keys {xs : List Nat} (h2 : 2 ≤ xs.length) (h5 : xs.length ≤ 5) (hn : xs.Nodup) :
    ∃ p, evalK xs.length (fun i j => decide (xs.getD i 0 < xs.getD j 0)) (kas_sort xs.length) = some p ∧ p.toList.Perm (List.range xs.length) ∧ (p.toList.map fun i => xs.getD i 0).Pairwise (· < ·) := by
  have hr := sort_any (r := xs.map (rank xs)) (by simpa using h2) (by simpa using h5) (rank_nodup hn) (fun x hx => by
    obtain ⟨y, hy, rfl⟩ := List.mem_map.mp hx
    rw [List.length_map]; exact rank_len hy)
  unfold okSort at hr
  rw [List.length_map] at hr
  have hget : ∀ i, i < xs.length → (xs.map (rank xs)).getD i 0 = rank xs (xs.getD i 0) ∧ xs.getD i 0 ∈ xs := fun i hi => by
    rw [List.getD_eq_getElem?_getD, List.getD_eq_getElem?_getD, List.getElem?_map, List.getElem?_eq_getElem hi]
    exact ⟨rfl, List.getElem_mem hi⟩
  have he : evalK xs.length (fun i j => decide (xs.getD i 0 < xs.getD j 0)) (kas_sort xs.length) = evalK xs.length (fun i j => decide ((xs.map (rank xs)).getD i 0 < (xs.map (rank xs)).getD j 0)) (kas_sort xs.length) :=
    evalK_congr (fun i j hi hj => by
      have a := hget i hi; have b := hget j hj
      rw [a.1, b.1]
      have := rank_lt (xs := xs) (y := xs.getD j 0) a.2
      simp only [decide_eq_decide]
      exact this.symm) _
  rw [he]
  split at hr
  · rename_i p hp
    rw [Bool.and_eq_true, beq_iff_eq, List.isPerm_iff] at hr
    refine ⟨p, hp, hr.2, ?_⟩
    have hmem : ∀ i ∈ p.toList, i < xs.length := fun i hi => List.mem_range.mp (hr.2.mem_iff.mp hi)
    have hpw : (p.toList.map fun i => (xs.map (rank xs)).getD i 0).Pairwise (· < ·) := by rw [hr.1]; exact List.pairwise_lt_range
    rw [List.pairwise_map] at hpw ⊢
    refine List.Pairwise.imp_of_mem (fun {a b} ha hb hab => ?_) hpw
    rw [(hget a (hmem a ha)).1, (hget b (hmem b hb)).1] at hab
    exact (rank_lt (hget a (hmem a ha)).2).mp hab
  · cases hr
end
section
open PySem PySem.W PySem.Calls PySem.Spec PyProof PyProof.Rows Builtin Builtin.ObjectAttr
set_option linter.unusedSimpArgs false
set_option maxRecDepth 100000
noncomputable def tupIn (K : Frag) (C : Addr) : Bool := match K.lookup C with
  | some ⟨_, _, .cls cd, sl⟩ => !cd.hasDel && (sl.toList[4]?).join == some .none && cd.mro == [.ref C, .type "tuple", .type "object"] && cd.bases == [.type "tuple"]
  | _ => false
structure TupCls (M : Model) (h : Heap) (C : Addr) : Prop where
  obj : ∃ oc od cd sl, h.get? C = some ⟨oc, od, .cls cd, sl⟩ ∧ cd.hasDel = false
  made : Looks M h (Bind.madeBy (.ref C)) none
  base : Looks M h (Bind.staticBase (.ref C)) (.type "tuple")
  sub : Looks M h (isSubtype (.ref C) (.type "tuple")) true
  typ : Looks M h (isType (.ref C)) true
theorem best_tuple : Slots.bestBase [.type "tuple"] = pure (.type "tuple") := by kernel_rfl
theorem tup_of {K : Frag} {M : Model} {h : Heap} (X : K.In h) {C : Addr} (e : tupIn K C = true) : TupCls M h C := by
  unfold tupIn at e
  split at e
  · rename_i oc od cd sl ho
    simp only [Bool.and_eq_true, Bool.not_eq_true', beq_iff_eq] at e
    obtain ⟨⟨⟨e1, e3⟩, e4⟩, e5⟩ := e
    have hc : clsIn K C = some cd := by unfold clsIn; rw [ho]
    have hcd : Looks M h (classData C) cd := looks_clsIn X hc
    have hm : Looks M h (mroOf (.ref C)) cd.mro := hcd.andThen .now
    have made : Looks M h (Bind.madeBy (.ref C)) none := by
      intro A Q E s k q
      unfold Bind.madeBy
      refine wpAny_bind (hm A _ E s k ?_)
      rw [e4, List.forIn_cons]
      refine wpAny_bind (wpAny_bind (wpAny_bind (wpAny_bind (wpAny_loadPart (k _ _ (X _ _ ho)) (wpAny_pure ?_)))))
      dsimp only
      rw [← Array.getElem?_toList, e3]
      exact wpAny_pure (wpAny_pure (wpAny_pure q))
    refine ⟨⟨oc, od, cd, sl, X _ _ ho, e1⟩, made, ?_, looks_mroIn X ?_, ?_⟩
    · intro A Q E s k q
      unfold Bind.staticBase
      refine wpAny_bind (hm A _ E s k ?_)
      rw [e4, List.forIn_cons]
      refine wpAny_bind (wpAny_bind (wpAny_bind (made A _ E s k ?_)))
      dsimp only
      rw [if_neg (by decide)]
      refine wpAny_bind (hcd A _ E s k ?_)
      rw [e5]
      refine wpAny_bind (wpAny_of_eq best_tuple (wpAny_pure ?_))
      dsimp only
      rw [List.forIn_cons]
      refine wpAny_bind (wpAny_bind (wpAny_of_eq PySem.F.called_tuple.made ?_))
      dsimp only
      rw [if_pos (by decide)]
      exact wpAny_pure (wpAny_pure (wpAny_pure q))
    · unfold mroIn; rw [hc, Option.bind_some, e4]; rfl
    · exact (Looks.ld (X _ _ ho)).andThen .now
  · cases e
theorem tn_kind : builtinKind "tuple.__new__" = some .builtinFn := by decide +kernel
theorem tn_split : splitId "tuple.__new__" = some ("tuple", "__new__") := by decide +kernel
theorem tn_row : Manifest.signature? "tuple.__new__" = some ⟨.constructor, "tuple", "tuple", .cls, [⟨"iterable", .posOnly, false⟩]⟩ := by kernel_rfl
theorem tn_args (a b : Value) : Bind.checkArgs "tuple.__new__" ⟨.constructor, "tuple", "tuple", .cls, [⟨"iterable", .posOnly, false⟩]⟩ ⟨[a, b], []⟩ = pure () := by kernel_rfl
theorem tn_quiet (as : Args) : (Code.builtin "tuple.__new__" as).quiet = true := Code.quiet_builtin _ (by decide +kernel)
theorem tn_plain : plainId "tuple.__new__" = true := by decide +kernel
set_option maxHeartbeats 4000000 in
theorem tuple_new_sub {prog : Program} {w : World} {A : Around} {E : Value → Shared → Prop} {h : Heap} {g : Array GenState} {d : Drawn} {t : Nat} {os : OsState} {C it : Addr} {o : Obj} {items : Array Value} {n : Nat} {Tn : String} {Q : Value → Shared → Prop} (Y : TupCls (model prog w) h C) (hinit : Looks (model prog w) h (typeLookup (.ref C) "__init__") (some (.builtin "object.__init__")))
    (hT : Tn = "list" ∨ Tn = "tuple") (ho : h.get? it = some o) (hc : o.cls = .type Tn) (hd : o.data = .seq items n) (hsz : items.size ≤ 100)
    (hq : ∀ h' dx r, h.StaysIn h' → dx < r → h.get? dx = none → h.get? r = none → h'.get? dx = some { cls := .type "dict", data := .dict #[] } → h'.get? r = some { cls := .ref C, dict := some dx, data := .seq items 0 } → Q (.ref r) ⟨h', g, d, t, os⟩) :
    wpAny (model prog w) A (call (.builtin "tuple.__new__") [.ref C, .ref it]) Q E ⟨h, g, d, t, os⟩ := by
  obtain ⟨⟨oc, od, cd, sl, hC, e1⟩, made, base, sub, typ⟩ := Y
  have mt : Looks (model prog w) h (Bind.madeBy (.type "tuple")) (some "tuple.__new__") := Looks.of_pure PySem.F.called_tuple.made
  have here : Looks (model prog w) h (Bind.madeHere "tuple.__new__" (.ref C)) () := base.andThen (mt.andThen (Looks.of_pure (by simp only [Option.map_some, bne_self_eq_false, Bool.false_eq_true, if_false])))
  refine wpAny_call (codeAny_call_builtin_code (tn_quiet _) ?_)
  unfold checkBuiltinCall
  rw [tn_kind]
  dsimp only
  rw [tn_split]
  dsimp only
  rw [tn_row]
  dsimp only
  rw [tn_args]
  repeat (first | rw [if_neg (by decide)] | rw [if_pos (by decide)] | lk)
  refine codeAny_builtin PySem.F.entry_tuple_new ?_
  rw [Around.under_plainId tn_plain _]
  unfold Builtin.«tuple.__new__»
  repeat (first | rw [if_neg (by decide)] | rw [if_pos (by decide)] | (with_reducible refine wpAny_collect_seq (s := ⟨h, g, d, t, os⟩) it hT ho hc hd (fun h1 hk1 => ?_) ?_) | lk)
  · rw [if_neg (by simp only [Array.toArray_toList]; rw [sizeLine_eq]; lia)]
    rw [Array.toArray_toList]
    have hC1 := hk1 _ _ hC
    unfold newObjAsIs classHasDel
    refine wpAny_bind (wpAny_alloc (wpAny_bind (wpAny_bind (wpAny_load (Heap.get?_push_of_some _ (Heap.get?_push_of_some _ hC1)) (wpAny_pure ?_)))))
    rw [e1]
    refine wpAny_pure (wpAny_pure ?_)
    refine hq _ h1.objs.size (h1.push { cls := .type "dict", data := .dict #[] }).objs.size (fun b ob e => Heap.get?_push_of_some _ (Heap.get?_push_of_some _ (hk1 _ _ e))) (by rw [Heap.size_push]; exact Nat.lt_succ_self _) ?_ ?_ (Heap.get?_push_of_some _ (Heap.get?_push_size _ rfl)) (Heap.get?_push_size _ rfl)
    · cases e : h.get? h1.objs.size with
      | none => rfl
      | some ob => exact absurd (Heap.lt_size (hk1 _ _ e)) (Nat.lt_irrefl _)
    · cases e : h.get? (h1.push { cls := .type "dict", data := .dict #[] }).objs.size with
      | none => rfl
      | some ob => exact absurd (Heap.lt_size (hk1 _ _ e)) (by rw [Heap.size_push]; exact Nat.not_lt.mpr (Nat.le_succ _))
  · rw [sizeLine_eq]; lia
abbrev matchObj (a b c : Value) (d : Addr) : Obj := { cls := .ref 206, dict := some d, data := .seq #[a, b, c] 0 }
noncomputable def NewR (a b c : Value) (h : Heap) (v : Value) (h' : Heap) : Prop := ∃ r dx, v = .ref r ∧ dx < r ∧ NewIn h h' [(r, matchObj a b c dx), (dx, { cls := .type "dict", data := .dict #[] })]
end
section
open PySem PySem.W PySem.Calls PySem.Spec PyProof PyProof.Rows Builtin Builtin.ObjectAttr
local macro_rules | `(tactic| walk_at "getMethod type:tuple") => `(tactic| (k_here; refine' method_type ?F ?X ?m (by decide +kernel) ?e ?h ?_; (case F => k_asm); (case X => k_asm); (case m => (first | rfl | kernel_rfl)); (case e => k_dflt k_is); (case h => k_handed)))
noncomputable def newsIn (K : Frag) (C : Addr) : Bool := match K.lookup C with
  | some ⟨_, _, .cls cd, sl⟩ => !cd.abstract && !cd.hasDel && (sl.toList[4]?).join == some .none && !cd.mro.isEmpty && cd.mro.contains (.ref C) && cd.mro.contains (.type "object") &&
      specialIn K (.ref C) "__call__" == some (some (.builtin "type.__call__")) && instIn K (.ref C) (.type "type") == some true
  | _ => false
structure News2 (M : Model) (h : Heap) (C : Addr) : Prop where
  obj : ∃ oc od cd sl, h.get? C = some ⟨oc, od, .cls cd, sl⟩ ∧ cd.abstract = false ∧ cd.hasDel = false ∧ cd.mro.isEmpty = false
  made : Looks M h (Bind.madeBy (.ref C)) none
  self : Looks M h (isSubtype (.ref C) (.ref C)) true
  top : Looks M h (isSubtype (.ref C) (.type "object")) true
  call : Looks M h (specialOf (.ref C) "__call__") (some (.builtin "type.__call__"))
  typ : Looks M h (isInstance (.ref C) (.type "type")) true
theorem news_of {K : Frag} {M : Model} {h : Heap} (X : K.In h) {C : Addr} (e : newsIn K C = true) : News2 M h C := by
  unfold newsIn at e
  split at e
  · rename_i oc od cd sl ho
    simp only [Bool.and_eq_true, Bool.not_eq_true', beq_iff_eq] at e
    obtain ⟨⟨⟨⟨⟨⟨⟨e1, e2⟩, e3⟩, e4⟩, e5⟩, e6⟩, e7⟩, e8⟩ := e
    have hc : clsIn K C = some cd := by unfold clsIn; rw [ho]
    have hm : Looks M h (mroOf (.ref C)) cd.mro := (looks_clsIn X hc).andThen .now
    obtain ⟨c, l, hl⟩ : ∃ c l, cd.mro = c :: l := by cases q : cd.mro with | nil => rw [q] at e4; cases e4 | cons c l => exact ⟨c, l, rfl⟩
    have made : Looks M h (Bind.madeBy (.ref C)) none := by
      intro A Q E s k q
      unfold Bind.madeBy
      refine wpAny_bind (hm A _ E s k ?_)
      rw [hl, List.forIn_cons]
      refine wpAny_bind (wpAny_bind (wpAny_bind (wpAny_bind (wpAny_loadPart (k _ _ (X _ _ ho)) (wpAny_pure ?_)))))
      (try dsimp only)
      rw [← Array.getElem?_toList, e3]
      exact wpAny_pure (wpAny_pure (wpAny_pure q))
    refine ⟨⟨oc, od, cd, sl, X _ _ ho, e1, e2, e4⟩, made, looks_mroIn X ?_, looks_mroIn X ?_, looks_specialIn X e7, looks_instIn X e8⟩
    · unfold mroIn; rw [hc, Option.bind_some, if_neg (by rw [e4]; decide), e5]
    · unfold mroIn; rw [hc, Option.bind_some, if_neg (by rw [e4]; decide), e6]
  · cases e
theorem oi_args4 (x a b c : Value) : argsOk "object.__init__" ⟨[x, a, b, c], []⟩ := by unfold argsOk; kernel_rfl
set_option maxHeartbeats 4000000 in
theorem class_new {prog : Program} {w : World} {A : Around} {R : Result → Shared → Prop} {h : Heap} {g : Array GenState} {d : Drawn} {t : Nat} {os : OsState} {C fN : Addr} {a1 a2 a3 : Value} (Y : News2 (model prog w) h C) (hinit : Looks (model prog w) h (typeLookup (.ref C) "__init__") (some (.builtin "object.__init__")))
    (hget : ∀ {A' : Around} {Q : Value → Shared → Prop} {E : Value → Shared → Prop}, (∀ tk, Q (.ref fN) ⟨h, g, d, tk, os⟩) → wpAny (model prog w) A' (getAttr (.ref C) "__new__") Q E ⟨h, g, d, t, os⟩)
    (hq : ∀ tk, wpAny (model prog w) (A.under (.builtin "type.__call__" ⟨.ref C :: [a1, a2, a3], []⟩)) (PySem.call (.ref fN) (.ref C :: [a1, a2, a3]) []) (fun v s' => ∃ x o, v = .ref x ∧ s'.heap.get? x = some o ∧ o.cls = .ref C ∧ h.StaysIn s'.heap ∧ R (.ok (.ret v)) s')
      (fun e s' => R (.error e) s') ⟨h, g, d, tk, os⟩) :
    codeAny (model prog w) A (.call (.ref C) ⟨[a1, a2, a3], []⟩) R ⟨h, g, d, t, os⟩ := by
  obtain ⟨⟨oc, od, cd, sl, hC, e1, e2, e4⟩, made, self, top, call, typ⟩ := Y
  refine codeAny_of_tree ?_
  show wpAny _ _ (callAny (.ref C) _) _ _ _
  refine nd_load hC ?_
  show wpAny _ _ (callAny.viaDunder (.ref C) _) _ _ _
  unfold callAny.viaDunder
  refine wpAny_bind (call.at ?_)
  (try dsimp only)
  rw [tc_bind]
  refine wpAny_bind (wpAny_pure (wpAny_bind (wpAny_pure ?_)))
  refine wpAny_pure (a := Fin.again (.call (.builtin "type.__call__") ⟨.ref C :: [a1, a2, a3], []⟩)) (And.intro rfl ?_)
  refine codeAny_call_builtin_at (Code.quiet_builtin _ (by decide +kernel)) entry_typeCall (check_slot tc_kind tc_split typ (tc_args _ _ _) ?_)
  unfold Builtin.«type.__call__»
  have hm : Looks (model prog w) h (mroOf (.ref C)) cd.mro := ((Looks.ld (part := none) hC).andThen .now).andThen .now
  repeat (first | (rw [e4]; rw [if_neg (by decide)]) | rw [if_neg (by decide)] | with_reducible refine hget (fun tk => ?_) | with_reducible refine wpAny_mono (hq _) (fun v s' z => Stop.h ?_) (fun e s' z => z) | lk)
  refine Stop.mk ?_
  obtain ⟨x, o, rfl, ho, hc, hst, hR⟩ := z
  have t1 : Looks (model prog w) s'.heap (typeOf (.ref x)) (.ref C) := hc ▸ (Looks.ld ho).andThen .now
  have s1 := self.keeps hst
  have i1 := hinit.keeps hst
  have m1 := made.keeps hst
  have t2 : Looks (model prog w) s'.heap (isInstance (.ref x) (.type "object")) true := t1.andThen (top.keeps hst)
  have b1 : Looks (model prog w) s'.heap (bindSpecial (.builtin "object.__init__") (.ref x)) (.builtin "object.__init__", [.ref x]) := Looks.of_pure (oi_bind _)
  obtain ⟨hp', g', d', t', os'⟩ := s'
  unfold isInstance callSpecial? specialOf
  repeat (first | rw [if_neg (by decide)] | with_reducible refine wpAny_call ?_ | lk)
  refine codeAny_call_builtin oi_plain entry_oi (check_slot oi_kind oi_split t2 (oi_args4 _ _ _ _) ?_)
  unfold Builtin.«object.__init__»
  repeat (first | rw [if_neg (by decide)] | lk)
  exact hR
set_option maxRecDepth 100000 in
set_option maxHeartbeats 4000000 in
theorem t_new (w : World) : PySem.Challenge.rw_ik0097_01 = PySem.Challenge.rw_ik0097_01 → Kx = Kx → ∀ (a b c : Value),
    Pur w 153 [.ref 206, a, b, c] 3 60 (fun _ => True) (NewR a b c) := by
  k_fill
  intro _ _ a b c
  (k_dflt (refine' pur_intro (by lia) ?k6 ?k7 ?k9 ?kB ?_ ?c2 ?c3 ?c4 ?c5; (case k6 => k_is); (case k7 => k_is); (case k9 => (intro _ Xb; first | exact BindsTo.of_eq rfl | exact binds_K (by k_in) rfl (by k_is) rfl rfl rfl)); (case c5 => decide); (case kB => exact locs rfl); (case c2 => exact rfl); (case c3 => exact rfl); (case c4 => exact rfl)); k_whole; intro dp un gd env outer base mean mg mb s E L' h₁ tk hd hu hP F1 N2 B X T; (try dsimp only); (try k_fold))
  have F2 := fr_as F1 (m' := fun (y : Str) => List.lookup y [("size", c), ("b", b), ("a", a), ("_cls", Value.ref 206)]) (by intro y; kernel_rfl)
  clear F1
  simp only [lk_cons, lk_nil] at F2
  have hY : tupIn (Kx w.params) 206 = true := by kernel_rfl
  have hi : findIn (Kx w.params) (.ref 206) "__init__" = some (some (.builtin "object.__init__")) := by k_dflt k_is
  (repeat' (first | (k_unfold; (try dsimp only)) | walk1 | (dsimp only; walk1) | (leave1; (try dsimp only)) | fail "no step"))
  (rename Fr s.heap L' _ _ => F9)
  (rename News s.heap L' _ _ => N9)
  have X9 := X.keeps F9.keep
  refine tuple_new_sub (tup_of X9 hY) (looks_findIn X9 hi) (.inr rfl) (N9 _ (.head _)).1 rfl rfl (by show (3 : Nat) ≤ 100; decide) ?_
  intro h' dx r hst hlt n1 n2 g1 g2
  refine PEnd.intro (F9.keeps hst) ⟨r, dx, rfl, hlt, ?_⟩
  intro p hp
  have stn : ∀ (q : Addr) (hh : Heap), (∀ b o, s.heap.get? b = some o → hh.get? b = some o) → hh.get? q = none → s.heap.get? q = none := fun q hh hk hq => by
    cases e : s.heap.get? q with
    | none => rfl
    | some o => have := hk _ _ e; rw [hq] at this; cases this
  rcases List.mem_cons.mp hp with rfl | hp
  · exact ⟨stn _ _ F9.keep n2, g2⟩
  · rw [List.mem_singleton.mp hp]; exact ⟨stn _ _ F9.keep n1, g1⟩
set_option maxRecDepth 100000 in
set_option maxHeartbeats 4000000 in
theorem t_match (w : World) : PySem.Challenge.rw_ik0097_01 = PySem.Challenge.rw_ik0097_01 → Kx = Kx → ∀ (a b c : Value),
    Pur w 206 [a, b, c] 5 80 (fun _ => True) (NewR a b c) := by
  k_fill
  intro _ _ a b c A h₀ L m s Q E S hd hu _ hret
  refine hide fun xX9 kX9 => ?_
  obtain ⟨hh, F, env, outer, A₀, base, mean, mg, mb, hA, hf', hke, B, X, T⟩ := S
  obtain ⟨hd', dp, fr, gd, un⟩ := A
  refine kX9 ?_
  clear kX9 xX9
  dsimp only at hh hA hd hu
  subst hh
  subst hA
  refine hide fun xX9 kX9 => ?_
  obtain ⟨hp, gn, dr, tk, os⟩ := s
  have Xs := X.keeps F.keep
  have e1 : newsIn (Kx w.params) 206 = true := by kernel_rfl
  have e2 : findIn (Kx w.params) (.ref 206) "__init__" = some (some (.builtin "object.__init__")) := by k_dflt k_is
  refine kX9 ?_
  clear kX9 xX9
  refine wpAny_call (class_new (fN := 153) (R := fun r s' => match r with | .ok (.ret v) => Q v s' | .ok _ => False | .error e => E e s') (news_of Xs e1) (looks_findIn Xs e2) (fun hQ => ?_) (fun tk' => ?_))
  · k_dflt (refine' cls_sm F X ?k3 ?k4 ?k5 ?k6 ?k7 ?_; (case k3 => k_is); (case k4 => k_is); (case k5 => k_is); (case k6 => k_is); (case k7 => k_handed))
    exact hQ _
  · refine t_new w rfl rfl a b c _ h₀ L m ⟨hp, gn, dr, tk', os⟩ _ _ ⟨rfl, F, env, outer, A₀, base, mean, mg, mb, rfl, hf', hke, B, X, T⟩ (show dp + 1 + 3 < recursionLimit by lia) (show un + 1 + 60 < cLine by lia) trivial (fun r h' tk'' hs hr => ?_)
    refine hide fun xX9 kX9 => ?_
    obtain ⟨x, dx, rfl, hlt, hn⟩ := id hr
    refine kX9 ?_
    clear kX9 xX9
    exact ⟨x, _, rfl, (hn _ (.head _)).2, rfl, hs, hret _ h' tk'' hs hr⟩
end
section
open PySem PySem.W PySem.Calls PySem.Spec PyProof PyProof.Rows
set_option linter.unusedSimpArgs false
set_option maxRecDepth 100000
noncomputable def IsM (h : Heap) (r : Addr) (its : Array Value) : Prop := ∃ o, h.get? r = some o ∧ o.cls = .ref 206 ∧ ∃ n, o.data = .seq its n
structure MCls (M : Model) (h : Heap) : Prop where
  iter : Looks M h (typeLookup (.ref 206) "__iter__") (some (.builtin "tuple.__iter__"))
  lt : Looks M h (typeLookup (.ref 206) "__lt__") (some (.builtin "tuple.__lt__"))
  len : Looks M h (typeLookup (.ref 206) "__len__") (some (.builtin "tuple.__len__"))
  sub : Looks M h (isSubtype (.ref 206) (.type "tuple")) true
theorem mcls_of (w : World) : PySem.Challenge.rw_ik0097_01 = PySem.Challenge.rw_ik0097_01 → Kx = Kx → ∀ (h : Heap), (Kx w.params).In h → MCls (model pw w) h := by
  k_fill
  intro _ _ h X
  have e1 : findIn (Kx w.params) (.ref 206) "__iter__" = some (some (.builtin "tuple.__iter__")) := by k_dflt k_is
  have e2 : findIn (Kx w.params) (.ref 206) "__lt__" = some (some (.builtin "tuple.__lt__")) := by k_dflt k_is
  have e3 : findIn (Kx w.params) (.ref 206) "__len__" = some (some (.builtin "tuple.__len__")) := by k_dflt k_is
  have hY : tupIn (Kx w.params) 206 = true := by kernel_rfl
  exact ⟨looks_findIn X e1, looks_findIn X e2, looks_findIn X e3, (tup_of X hY).sub⟩
theorem IsM.typ {M : Model} {h : Heap} {r : Addr} {its : Array Value} (x : IsM h r its) : Looks M h (typeOf (.ref r)) (.ref 206) := by
  obtain ⟨o, ho, hc, _⟩ := x
  exact hc ▸ (Looks.ld ho).andThen .now
theorem IsM.inst {M : Model} {h : Heap} {r : Addr} {its : Array Value} (x : IsM h r its) (Y : MCls M h) : Looks M h (isInstance (.ref r) (.type "tuple")) true := x.typ.andThen Y.sub
section
variable {prog : Program} {w : World} {A : Around} {E : Value → Shared → Prop} {s : Shared}
theorem call_sub {id n : String} {b : Builtin} {self : Value} {rest : List Value} {Q : Value → Shared → Prop} (hk : builtinKind id = some .slot) (hs : splitId id = some ("tuple", n)) (hp : plainId id = true) (hb : entryFor table id = some b)
    (hi : Looks (model prog w) s.heap (isInstance self (.type "tuple")) true) (ha : argsOk id ⟨self :: rest, []⟩)
    (hc : wpAny (model prog w) A.in1 (b ⟨self :: rest, []⟩) (fun fin s' => ∃ v, fin = .done (.ret v) ∧ Q v s') E s) : wpAny (model prog w) A (call (.builtin id) (self :: rest)) Q E s := by
  refine wpAny_call (codeAny_call_builtin hp hb (check_slot hk hs hi ha (wpAny_mono hc (fun fin s' h' => ?_) fun _ _ h' => h')))
  obtain ⟨v, rfl, hv⟩ := h'; exact hv
theorem iter_match {r : Addr} {its : Array Value} {Q : Value → Shared → Prop} (Y : MCls (model prog w) s.heap) (h : IsM s.heap r its)
    (hQ : Q (.ref s.heap.objs.size) { s with heap := s.heap.push { cls := .type "tuple_iterator", data := .fields #[.ref r, .int 0 0] } }) : wpAny (model prog w) A (pyIter (.ref r)) Q E s := by
  have t1 : Looks (model prog w) s.heap (specialOf (.ref r) "__iter__") (some (.builtin "tuple.__iter__")) := h.typ.andThen Y.iter
  have hb := PySem.F.slot_tuple_iter.bind (.ref r)
  have fin : wpAny (model prog w) A (call (.builtin "tuple.__iter__") [.ref r]) (fun it s' => it = .ref s.heap.objs.size ∧ s' = { s with heap := s.heap.push { cls := .type "tuple_iterator", data := .fields #[.ref r, .int 0 0] } }) E s := by
    refine call_sub (n := "__iter__") (by decide +kernel) (by decide +kernel) (by decide +kernel) PySem.F.entry_tuple_iter (h.inst Y) (PySem.F.args_tuple_iter_1 _) ?_
    show wpAny _ _ (do ret (← newFields "tuple_iterator" [.ref r, rawInt 0])) _ _ s
    exact wpAny_bind (wpAny_newObj_type (wpAny_pure ⟨_, rfl, rfl, rfl⟩))
  have fin' : wpAny (model prog w) A (call (.builtin "tuple.__iter__") [.ref r]) (fun it s' => wpAny (model prog w) A (pure (some it)) (fun (it : Option Value) s' => it = some (.ref s.heap.objs.size) ∧ s' = { s with heap := s.heap.push { cls := .type "tuple_iterator", data := .fields #[.ref r, .int 0 0] } }) E s') E s :=
    wpAny_mono fin (fun it s' h' => wpAny_pure ⟨congrArg some h'.1, h'.2⟩) fun _ _ e => e
  unfold pyIter
  refine wpAny_bind (t1.here ?_)
  dsimp only
  refine wpAny_bind ?_
  refine wpAny_mono (Q := fun it s' => it = some (.ref s.heap.objs.size) ∧ s' = { s with heap := s.heap.push { cls := .type "tuple_iterator", data := .fields #[.ref r, .int 0 0] } }) ?_ (fun it s' h' => ?_) fun _ _ e => e
  · unfold callSpecialIfBoundUnlessNone? bindSpecialIfBound?
    refine wpAny_holding (wpAny_bind (wpAny_bind (t1.here ?_)))
    dsimp only
    refine wpAny_bind (wpAny_askSetting (wpAny_ite ?_))
    split
    · refine wpAny_bind (wpAny_of_eq hb (wpAny_pure ?_))
      exact wpAny_bind fin'
    · refine wpAny_tryCatch (wpAny_bind (wpAny_of_eq hb (wpAny_pure ?_)))
      exact wpAny_bind fin'
  · obtain ⟨rfl, rfl⟩ := h'
    dsimp only
    refine wpAny_bind (wpAny_specialOf (T := "tuple_iterator") ⟨_, Heap.get?_push_size _ rfl, rfl⟩ slot_tupleiter_next.lookup (wpAny_pure hQ))
end
end
section
open PySem PySem.W PySem.Calls PySem.Spec PyProof PyProof.Rows
set_option linter.unusedSimpArgs false
set_option maxRecDepth 100000
noncomputable def IsSq (h : Heap) (r : Addr) (its : Array Value) : Prop := ∃ o, h.get? r = some o ∧ ∃ n, o.data = .seq its n
theorem IsM.sq {h : Heap} {r : Addr} {its : Array Value} (x : IsM h r its) : IsSq h r its := let ⟨o, a, _, b⟩ := x; ⟨o, a, b⟩
theorem IsSq.keep {h h' : Heap} {r : Addr} {its : Array Value} (x : IsSq h r its) (k : ∀ o, h.get? r = some o → h'.get? r = some o) : IsSq h' r its := let ⟨o, a, b⟩ := x; ⟨o, k _ a, b⟩
theorem IsM.keep {h h' : Heap} {r : Addr} {its : Array Value} (x : IsM h r its) (k : ∀ o, h.get? r = some o → h'.get? r = some o) : IsM h' r its := let ⟨o, a, b⟩ := x; ⟨o, k _ a, b⟩
section
variable {prog : Program} {w : World} {A : Around} {E : Value → Shared → Prop} {s : Shared}
theorem sq_item {it t : Addr} {i : Nat} {items : Array Value} {x : Value} {Q : Option Value → Shared → Prop} (hit : IsTupIter s.heap it t i) (ht : IsSq s.heap t items) (hx : items[i]? = some x)
    (hQ : ∀ h', IsTupIter h' it t (i + 1) → Heap.SameBut it s.heap h' → Q (some x) { s with heap := h' }) : wpAny (model prog w) A (pyNext (.ref it)) Q E s := by
  obtain ⟨o, ho, hc, hd⟩ := id hit
  obtain ⟨ol, hol, nl, hdl⟩ := ht
  have body : wpAny (model prog w) A.in1 (Builtin.«tuple_iterator.__next__» ⟨[.ref it], []⟩) (fun fin s' => ∃ v, fin = .done (.ret v) ∧ wpAny (model prog w) A (pure (some v)) Q E s') (fun _ _ => False) s := by
    show wpAny _ _ (field (.ref it) 0 >>= _) _ _ s
    refine wpAny_bind (wpAny_field ho hd (x := .ref t) rfl ?_)
    show wpAny _ _ (if (Value.ref t == Value.none) = true then _ else _) _ _ s
    rw [if_neg (show ¬ ((Value.ref t == Value.none) = true) from Bool.false_ne_true)]
    show wpAny _ _ (field (.ref it) 1 >>= _) _ _ s
    refine wpAny_bind (wpAny_field ho hd (x := .int i 0) rfl ?_)
    show wpAny _ _ (seqItems? (.ref t) >>= _) _ _ s
    refine wpAny_bind (wpAny_seqItems hol hdl ?_)
    simp only [Int.toNat_natCast, hx]
    refine wpAny_bind (wpAny_setField ho hd (by simp) (wpAny_pure ⟨x, rfl, wpAny_pure (hQ _ ?_ (Heap.SameBut.update ..))⟩))
    exact ⟨_, Heap.get?_update_self _ ho (Obj.isFreed_of_fields (Obj.data_mapFields hd _)), (Obj.cls_mapFields ..).trans hc, by rw [Obj.data_mapFields hd]; simp [rawInt]⟩
  unfold pyNext
  refine wpAny_bind (wpAny_attempt (wpAny_callSpecial?_slot (name := Str.ofString "__next__") hit.typeIs slot_tupleiter_next
    (wpAny_call_entry slot_tupleiter_next hit.typeIs entry_tupleiter_next (wpAny_mono body (fun _ _ p => p) fun _ _ e => e.elim) (args_tupleiter_next _))))
theorem sq_end {it t : Addr} {i : Nat} {items : Array Value} {Q : Option Value → Shared → Prop} (hh : A.handled = none) (hit : IsTupIter s.heap it t i) (ht : IsSq s.heap t items) (hx : items[i]? = none)
    (hQ : ∀ h', Heap.ExtBut it s.heap h' → Q none { s with heap := h' }) : wpAny (model prog w) A (pyNext (.ref it)) Q E s := by
  obtain ⟨o, ho, hc, hd⟩ := id hit
  obtain ⟨ol, hol, nl, hdl⟩ := ht
  unfold pyNext
  refine wpAny_bind (wpAny_attempt (wpAny_callSpecial?_slot (name := Str.ofString "__next__") hit.typeIs slot_tupleiter_next
    (wpAny_call_entry slot_tupleiter_next hit.typeIs entry_tupleiter_next ?_ (args_tupleiter_next _))))
  show wpAny _ _ (field (.ref it) 0 >>= _) _ _ s
  refine wpAny_bind (wpAny_field ho hd (x := .ref t) rfl ?_)
  show wpAny _ _ (if (Value.ref t == Value.none) = true then _ else _) _ _ s
  rw [if_neg (show ¬ ((Value.ref t == Value.none) = true) from Bool.false_ne_true)]
  show wpAny _ _ (field (.ref it) 1 >>= _) _ _ s
  refine wpAny_bind (wpAny_field ho hd (x := .int i 0) rfl ?_)
  show wpAny _ _ (seqItems? (.ref t) >>= _) _ _ s
  refine wpAny_bind (wpAny_seqItems hol hdl ?_)
  simp only [Int.toNat_natCast, hx]
  refine wpAny_bind (wpAny_rule (wpAny_bind (wpAny_setField ho hd (by simp) ?_)))
  show wpAny _ _ (newExc (.type "StopIteration") [] >>= _) _ _ _
  refine wpAny_bind ?_
  simp only [newExc, newTuple]
  refine wpAny_bind (wpAny_newObj_type ?_ (by size_fits))
  refine wpAny_bind (m := firstArgMember _ _) (wpAny_of_eq (a := Value.none) (by first | rfl | (simp only [firstArgMember]; rfl)) ?_)
  refine wpAny_newObj_type ?_ (by size_fits)
  simp only [raiseNew]
  refine wpAny_bind (wpAny_handled ?_)
  first | rw [show A.in1.handled = none from hh] | rw [hh]
  refine wpAny_bind (wpAny_pure (wpAny_throw ?_))
  refine wpAny_bind (wpAny_isInstance (T := "StopIteration") (b := true) ⟨_, Heap.get?_push_size _ rfl, rfl⟩ isSubtype_stop ?_)
  exact wpAny_pure (hQ _ (((Heap.SameBut.update ..).extBut.push _).push _))
theorem sq_draw {it t : Addr} {items : Array Value} (hne : t ≠ it) : ∀ (n i : Nat) (s : Shared) (Q : List Value → Shared → Prop), IsTupIter s.heap it t i → IsSq s.heap t items → i + n ≤ items.size →
    (∀ h', IsTupIter h' it t (i + n) → Heap.SameBut it s.heap h' → Q ((items.toList.drop i).take n) { s with heap := h' }) → wpAny (model prog w) A (draw (.ref it) n) Q E s
  | 0, i, s, Q, hit, _, _, hQ => wpAny_pure (by simpa using hQ s.heap hit (Heap.SameBut.refl ..))
  | n + 1, i, s, Q, hit, ht, hle, hQ => by
    have hlt : i < items.size := by lia
    show wpAny _ _ (pyNext (.ref it) >>= _) Q E s
    refine wpAny_bind (sq_item hit ht (x := items[i]) (by simp [hlt]) fun h₁ hit₁ hs₁ => ?_)
    refine wpAny_bind (wpAny_holding (sq_draw hne n (i + 1) _ _ hit₁ (ht.keep fun o e => hs₁.extBut t o hne e) (by lia) fun h₂ hit₂ hs₂ => wpAny_pure ?_))
    have hd : items.toList.drop i = items[i] :: items.toList.drop (i + 1) := by simp [List.drop_eq_getElem_cons, hlt]
    have := hQ h₂ (by rw [show i + (n + 1) = i + 1 + n by lia]; exact hit₂) (hs₁.trans hs₂)
    rw [hd, List.take_succ_cons] at this
    exact this
theorem unpack_M {t : Addr} {items : Array Value} {Q : List Value → Shared → Prop} (Y : MCls (model prog w) s.heap) (hh : A.handled = none) (ht : IsM s.heap t items)
    (hQ : ∀ h', Heap.ExtBut s.heap.objs.size s.heap h' → Q items.toList { s with heap := h' }) : wpAny (model prog w) A (unpackItems (.ref t) items.size none) Q E s := by
  have hlt : t ≠ s.heap.objs.size := by obtain ⟨o, ho, _⟩ := ht; exact Nat.ne_of_lt (Heap.lt_size ho)
  have t1 : Looks (model prog w) s.heap (specialOf (.ref t) "__iter__") (some (.builtin "tuple.__iter__")) := ht.typ.andThen Y.iter
  unfold unpackItems
  refine wpAny_bind ?_
  unfold notIterableAtAll
  refine wpAny_bind (t1.here ?_)
  refine wpAny_pure ?_
  simp only [Bool.false_eq_true, if_false]
  refine wpAny_bind (wpAny_holding (iter_match Y ht ?_))
  have hp : ∀ o, s.heap.get? t = some o → (s.heap.push { cls := .type "tuple_iterator", data := .fields #[.ref t, .int 0 0] }).get? t = some o := fun o e => Heap.get?_push_of_some _ e
  refine wpAny_bind (wpAny_holding (sq_draw hlt items.size 0 _ _ ⟨_, Heap.get?_push_size _ rfl, rfl, rfl⟩ (ht.sq.keep hp) (by lia) fun h₁ hit₁ hs₁ => ?_))
  have hall : List.take items.size (List.drop 0 items.toList) = items.toList := by
    rw [List.drop_zero]; exact List.take_of_length_le (by simp)
  rw [hall]
  rw [if_neg (by simp)]
  have ht₁ : IsSq h₁ t items := ht.sq.keep fun o e => hs₁.extBut t o hlt (hp o e)
  refine wpAny_bind (wpAny_holding (sq_end hh hit₁ ht₁ (by simp) fun h₂ he₂ => ?_))
  simp only [Option.isSome_none, Bool.false_eq_true, if_false]
  refine wpAny_pure (hQ h₂ fun b o hb e => he₂ b o hb (hs₁.extBut b o hb (Heap.get?_push_of_some _ e)))
theorem assignM_K {h₀ : Heap} {L t : Addr} {m : Str → Option Value} {news : List (Addr × Obj)} {items : Array Value} {env : Env} {elts : List Expr} {k : Nat} {pos : Pos} {Q : Unit → Shared → Prop} (F : Fr h₀ L s.heap m) (N : News h₀ L s.heap news) (Y : MCls (model prog w) h₀) (ht : IsM s.heap t items)
    (hh : A.handled = none) (hn : (assignEach elts env).length = items.size) (hstar : (assignEach elts env).findIdx? (·.1) = none)
    (h : ∀ h', Fr h₀ L h' m → News h₀ L h' news → (∀ o, s.heap.get? t = some o → h'.get? t = some o) → wpAny (model prog w) A (assignInOrder ((assignEach elts env).map (·.2)) items.toList) Q E { s with heap := h' }) : wpAny (model prog w) A (assign (.Tuple elts k pos) env (.ref t)) Q E s := by
  rw [assign_Tuple]
  refine wpAny_bind (wpAny_standAt ?_)
  unfold unpack
  rw [hn, hstar]
  refine wpAny_bind (wpAny_holding ?_)
  exact unpack_M ⟨Y.iter.keeps F.keep, Y.lt.keeps F.keep, Y.len.keeps F.keep, Y.sub.keeps F.keep⟩ hh ht fun h' he => h h' (F.extBut he (Nat.le_refl _)) (N.extBut he (Nat.le_refl _)) fun o e => he t o (Nat.ne_of_lt (Heap.lt_size e)) e
theorem lt_M {a b : Addr} {x y : Int} {tx ty : Tok} {xs ys : List Value} {Q : Bool → Shared → Prop} (hu : A.units < cLine) (Y : MCls (model prog w) s.heap) (ha : IsM s.heap a (.int x tx :: xs).toArray) (hb : IsM s.heap b (.int y ty :: ys).toArray) (hne : x ≠ y)
    (h : ∀ tk, Q (decide (x < y)) { s with toks := tk }) : wpAny (model prog w) A (keyLt' oneType' (.ref a) (.ref b)) Q E s := by
  rw [keyLt'_oneType, oneLt'_eq]
  simp only [if_true]
  have t1 : Looks (model prog w) s.heap (specialOf (.ref a) "__lt__") (some (.builtin "tuple.__lt__")) := ha.typ.andThen Y.lt
  have hbd := PySem.F.slot_tuple_lt.bind (.ref a)
  have fin : wpAny (model prog w) A (call (.builtin "tuple.__lt__") [.ref a, .ref b]) (fun v s' => ∃ tk, v = .bool (decide (x < y)) ∧ s' = { s with toks := tk }) E s := by
    refine call_sub (n := "__lt__") (by decide +kernel) (by decide +kernel) (by decide +kernel) PySem.F.entry_tuple_lt (ha.inst Y) (PySem.F.args_tuple_lt_2 _ _) ?_
    obtain ⟨oa, hoa, _, na, hda⟩ := id ha
    obtain ⟨ob, hob, _, nb, hdb⟩ := id hb
    show wpAny _ _ (do
      let t ← isInstance (.ref b) (.type "tuple")
      if !t then return ← ret .notImplemented
      let xs ← Builtin.Tuple.tupleItemsOf (.ref a)
      let ys ← Builtin.Tuple.tupleItemsOf (.ref b)
      for (x, y) in xs.toList.zip ys.toList do
        if !(← eqBool x y) then
          rule "tuple.compare.by-the-first-pair-that-differs"; return ← ret (← richCompare .Lt x y)
      ret (Builtin.Tuple.tupleCompareSizes .Lt xs.size ys.size)) _ _ s
    refine wpAny_bind ((hb.inst Y).here ?_)
    simp only [Bool.not_true, Bool.false_eq_true, if_false]
    refine wpAny_bind (wpAny_bind (wpAny_seqItems hoa hda (wpAny_pure ?_)))
    refine wpAny_bind (wpAny_bind (wpAny_seqItems hob hdb (wpAny_pure ?_)))
    simp only [List.zip_cons_cons]
    rw [List.forIn_cons]
    refine wpAny_bind (wpAny_bind (wpAny_bind (wpAny_eqBool_int ?_)))
    have e1 : (x == y) = false := by simpa using hne
    rw [e1]
    simp only [Bool.not_false, if_true]
    refine wpAny_bind (wpAny_rule ?_)
    refine wpAny_bind (show wpAny _ _ (compareOp .Lt (.int x tx) (.int y ty)) _ _ _ from ?_)
    refine PySem.P.lt_int ?_
    exact wpAny_bind (wpAny_pure (wpAny_pure (wpAny_pure (wpAny_pure ⟨_, rfl, s.toks, rfl, rfl⟩))))
  refine wpAny_bind (wpAny_cRoomFor hu ?_)
  refine wpAny_bind ?_
  have fin' : wpAny (model prog w) A (call (.builtin "tuple.__lt__") [.ref a, .ref b]) (fun it s' => wpAny (model prog w) A (pure (some it)) (fun (v : Option Value) s' => ∃ tk, v = some (.bool (decide (x < y))) ∧ s' = { s with toks := tk }) E s') E s :=
    wpAny_mono fin (fun it s' h' => wpAny_pure (by obtain ⟨tk, rfl, rfl⟩ := h'; exact ⟨tk, rfl, rfl⟩)) fun _ _ e => e
  refine wpAny_mono (Q := fun v s' => ∃ tk, v = some (.bool (decide (x < y))) ∧ s' = { s with toks := tk }) ?_ (fun it s' h' => ?_) fun _ _ e => e
  · unfold callSpecialIfBound? bindSpecialIfBound?
    refine wpAny_holding (wpAny_bind (wpAny_bind (t1.here ?_)))
    dsimp only
    refine wpAny_bind (wpAny_askSetting (wpAny_ite ?_))
    split
    · refine wpAny_bind (wpAny_of_eq hbd (wpAny_pure ?_))
      exact wpAny_bind fin'
    · refine wpAny_tryCatch (wpAny_bind (wpAny_of_eq hbd (wpAny_pure ?_)))
      exact wpAny_bind fin'
  · obtain ⟨tk, rfl, rfl⟩ := h'
    dsimp only
    exact wpAny_truthy_bool (h tk)
end
end
section
open PySem PySem.W PySem.Calls PySem.Spec PyProof PyProof.Rows
set_option linter.unusedSimpArgs false
set_option maxRecDepth 100000
noncomputable def MatsIn (led : List (Addr × Obj)) : List Value → List (Nat × Nat × Nat) → Prop
  | [], [] => True
  | v :: vs, b :: bl => (∃ a x y z dx, v = .ref a ∧ (a, matchObj (.int (b.1 : Nat) x) (.int (b.2.1 : Nat) y) (.int (b.2.2 : Nat) z) dx) ∈ led) ∧ MatsIn led vs bl
  | _, _ => False
theorem MatsIn.more {led led' : List (Addr × Obj)} (hs : ∀ p ∈ led, p ∈ led') : ∀ {vs : List Value} {bl : List (Nat × Nat × Nat)}, MatsIn led vs bl → MatsIn led' vs bl
  | [], [], _ => trivial
  | _ :: _, _ :: _, ⟨⟨a, x, y, z, dx, e, e'⟩, T⟩ => ⟨⟨a, x, y, z, dx, e, hs _ e'⟩, MatsIn.more hs T⟩
  | [], _ :: _, T => T.elim
  | _ :: _, [], T => T.elim
theorem MatsIn.append {led : List (Addr × Obj)} : ∀ {vs : List Value} {bl : List (Nat × Nat × Nat)} {vs' : List Value} {bl' : List (Nat × Nat × Nat)}, MatsIn led vs bl → MatsIn led vs' bl' → MatsIn led (vs ++ vs') (bl ++ bl')
  | [], [], _, _, _, T' => T'
  | _ :: _, _ :: _, _, _, ⟨a, T⟩, T' => ⟨a, MatsIn.append T T'⟩
  | [], _ :: _, _, _, T, _ => T.elim
  | _ :: _, [], _, _, T, _ => T.elim
theorem MatsIn.length {led : List (Addr × Obj)} : ∀ {vs : List Value} {bl : List (Nat × Nat × Nat)}, MatsIn led vs bl → vs.length = bl.length
  | [], [], _ => rfl
  | _ :: _, _ :: _, ⟨_, T⟩ => congrArg (· + 1) (MatsIn.length T)
  | [], _ :: _, T => T.elim
  | _ :: _, [], T => T.elim
theorem MatsIn.get {led : List (Addr × Obj)} : ∀ {vs : List Value} {bl : List (Nat × Nat × Nat)} (_ : MatsIn led vs bl) {i : Nat}, i < bl.length → ∃ b a x y z dx, bl[i]? = some b ∧ vs[i]? = some (.ref a) ∧ (a, matchObj (.int (b.1 : Nat) x) (.int (b.2.1 : Nat) y) (.int (b.2.2 : Nat) z) dx) ∈ led
  | [], [], _, i, h => absurd h (Nat.not_lt_zero _)
  | _ :: _, b :: _, ⟨⟨a, x, y, z, dx, e1, e2⟩, _⟩, 0, _ => by subst e1; exact ⟨b, a, x, y, z, dx, rfl, rfl, e2⟩
  | _ :: _, _ :: _, ⟨_, T⟩, i + 1, h => by
    simp only [List.getElem?_cons_succ]
    exact T.get (by simpa using h)
  | [], _ :: _, T, _, _ => T.elim
  | _ :: _, [], T, _, _ => T.elim
theorem MatsIn.pick {led : List (Addr × Obj)} {vs : List Value} {bl : List (Nat × Nat × Nat)} (T : MatsIn led vs bl) : ∀ (p : List Nat), (∀ i ∈ p, i < bl.length) → MatsIn led (p.map fun i => vs.getD i Value.none) (p.map fun i => bl.getD i (0, 0, 0))
  | [], _ => trivial
  | i :: p, h => by
    obtain ⟨b, a, x, y, z, dx, e1, e2, e3⟩ := T.get (h i (.head _))
    refine ⟨⟨a, x, y, z, dx, ?_, ?_⟩, MatsIn.pick T p fun j hj => h j (.tail _ hj)⟩
    · show vs.getD i Value.none = _; rw [List.getD_eq_getElem?_getD, e2]; rfl
    · have e4 : bl.getD i (0, 0, 0) = b := by rw [List.getD_eq_getElem?_getD, e1]; rfl
      show (a, matchObj (.int ((bl.getD i (0, 0, 0)).1 : Nat) x) (.int ((bl.getD i (0, 0, 0)).2.1 : Nat) y) (.int ((bl.getD i (0, 0, 0)).2.2 : Nat) z) dx) ∈ led
      rw [e4]; exact e3
theorem map_getD_range {α : Type} (d : α) (l : List α) : (List.range l.length).map (fun i => l.getD i d) = l := by
  apply List.ext_getElem
  · simp
  · intro i h1 h2
    simp [h2]
theorem updF_again {d : Addr} {o : Obj} {l : List (Addr × Obj)} {g : Obj → List (Addr × Obj)} (U : UpdF d o l g) (o' : Obj) : UpdF d o' (g o') g := by
  induction U with
  | head h => exact .head h
  | tail h _ ih => exact .tail h ih
section
variable {prog : Program} {w : World} {A : Around} {E : Value → Shared → Prop} {s : Shared} {h₀ : Heap} {L D : Addr} {m : Str → Option Value} {news : List (Addr × Obj)} {vs : List Value} {bl : List (Nat × Nat × Nat)} {n : Nat} {g : Obj → List (Addr × Obj)} {Q : Value → Shared → Prop}
theorem sort_M (hu : A.in1.units < cLine) (F : Fr h₀ L s.heap m) (N : News h₀ L s.heap news) (Y : MCls (model prog w) h₀) (U : UpdF D (W.listOf vs.toArray n) news g) (hm : ∀ o, MatsIn (g o) vs bl) (h2 : 2 ≤ bl.length) (h5 : bl.length ≤ 5) (hn : (bl.map (·.1)).Nodup)
    (h : ∀ h' c vs' bl', bl'.Perm bl → bl'.Pairwise (fun a b => a.1 < b.1) → (∀ o, MatsIn (g o) vs' bl') → Fr h₀ L h' m → News h₀ L h' (g (W.listOf vs'.toArray c)) → ∀ tk, Q .none { s with heap := h', toks := tk }) :
    wpAny (model prog w) A (call (.builtin "list.sort") [.ref D]) Q E s := by
  have hl := (hm default).length
  refine kas_lsort (T := .ref 206) F N U rfl (by simpa [hl] using h2) (by simp [hl]; lia) ?_ (by decide) ?_
  · intro e1 h' F' N' v hv
    have hv : v ∈ vs := by simpa using hv
    obtain ⟨i, hi, rfl⟩ := List.getElem_of_mem hv
    obtain ⟨b, a, x, y, z, dx, e1', e2, e3⟩ := (hm (seqObj "list" #[] e1)).get (i := i) (by lia)
    rw [List.getElem?_eq_getElem hi] at e2
    rw [Option.some.inj e2]
    exact (Looks.ld (N'.get e3)).andThen .now
  · intro e1 h' F' N'
    have hkl : (bl.map (·.1)).length = bl.length := by simp
    obtain ⟨p, hp, hperm, hpw⟩ := sort_keys (xs := bl.map (·.1)) (by lia) (by lia) hn
    rw [hkl] at hp hperm
    have hmem : ∀ i ∈ p.toList, i < bl.length := fun i hi => List.mem_range.mp (hperm.mem_iff.mp hi)
    have hev : vs.toArray.toList = vs := rfl
    rw [hl]
    refine kas_eval (s := { s with heap := h' }) (n := bl.length) (fun i j C tk hi hj hij hC => ?_) (kas_sort bl.length) s.toks hp (fun tk => ?_)
    · obtain ⟨b, a, x, y, z, dx, e1', e2, e3⟩ := (hm (seqObj "list" #[] e1)).get hi
      obtain ⟨b', a', x', y', z', dx', e1'', e2', e3'⟩ := (hm (seqObj "list" #[] e1)).get hj
      unfold kas_ask
      rw [List.getD_eq_getElem?_getD, List.getD_eq_getElem?_getD, e2, e2']
      have k1 : (bl.map (·.1)).getD i 0 = b.1 := by rw [List.getD_eq_getElem?_getD, List.getElem?_map, e1']; rfl
      have k2 : (bl.map (·.1)).getD j 0 = b'.1 := by rw [List.getD_eq_getElem?_getD, List.getElem?_map, e1'']; rfl
      rw [k1, k2] at hC
      have hne : b.1 ≠ b'.1 := by
        intro e
        have hi' : i < (bl.map (·.1)).length := by simpa using hi
        have hj' : j < (bl.map (·.1)).length := by simpa using hj
        rw [← k1, ← k2] at e
        rw [List.getD_eq_getElem?_getD, List.getD_eq_getElem?_getD, List.getElem?_eq_getElem hi', List.getElem?_eq_getElem hj'] at e
        have hpn := List.pairwise_iff_getElem.mp hn
        rcases Nat.lt_or_gt_of_ne hij with q | q
        · exact hpn i j hi' hj' q e
        · exact hpn j i hj' hi' q e.symm
      refine lt_M (s := { s with heap := h', toks := tk }) hu ⟨Y.iter.keeps F'.keep, Y.lt.keeps F'.keep, Y.len.keeps F'.keep, Y.sub.keeps F'.keep⟩ (xs := [_, _]) (ys := [_, _]) ⟨_, N'.get e3, rfl, _, rfl⟩ ⟨_, N'.get e3', rfl, _, rfl⟩ (by lia) (fun tk' => ?_)
      have e : decide ((b.1 : Int) < (b'.1 : Int)) = decide (b.1 < b'.1) := by simp
      rw [e]
      exact hC tk'
    · refine KasFin.intro (s := { s with heap := h', toks := tk }) (g := g) F' N' (updF_again U _) (fun h'' c F'' N'' => ?_)
      have q := h h'' c (p.toList.map fun i => vs.getD i Value.none) (p.toList.map fun i => bl.getD i (0, 0, 0)) ?_ ?_ (fun o => (hm o).pick _ hmem) F'' N'' tk
      · exact q
      · have := hperm.map (fun i => bl.getD i (0, 0, 0))
        rw [map_getD_range] at this
        exact this
      · rw [List.pairwise_map] at hpw ⊢
        refine List.Pairwise.imp_of_mem (fun {a b} ha hb hab => ?_) hpw
        have ka : ∀ a, a < bl.length → (bl.map (·.1)).getD a 0 = (bl.getD a (0, 0, 0)).1 := fun a ha => by
          rw [List.getD_eq_getElem?_getD, List.getD_eq_getElem?_getD, List.getElem?_map, List.getElem?_eq_getElem ha]; rfl
        rw [ka a (hmem a ha), ka b (hmem b hb)] at hab
        exact hab
end
end
section
open PySem PySem.W PySem.Calls PySem.Spec PyProof PyProof.Rows
set_option linter.unusedSimpArgs false
set_option maxRecDepth 100000
section
variable {prog : Program} {w : World} {A : Around} {E : Value → Shared → Prop} {s : Shared} {h₀ : Heap} {L D : Addr} {m : Str → Option Value} {news : List (Addr × Obj)} {vs : List Value} {bl : List (Nat × Nat × Nat)} {n : Nat} {g : Obj → List (Addr × Obj)} {Q : Value → Shared → Prop}
theorem sort_few (F : Fr h₀ L s.heap m) (N : News h₀ L s.heap news) (U : UpdF D (W.listOf vs.toArray n) news g) (hl : vs.length < 2)
    (h : ∀ h' c, Fr h₀ L h' m → News h₀ L h' (g (W.listOf vs.toArray c)) → Q .none { s with heap := h' }) : wpAny (model prog w) A (call (.builtin "list.sort") [.ref D]) Q E s := by
  obtain ⟨pre, post, e0, hg, x1, x2⟩ := U.split
  rw [e0] at N
  have nz := N (D, W.listOf vs.toArray n) (List.mem_append_right _ (.head _))
  have ho : s.heap.get? D = some (seqObj "list" vs.toArray n) := nz.1
  have s1 := Heap.SameBut.update s.heap D (Obj.mapSeq fun _ => (#[] : Array Value))
  obtain ⟨e1, ho1⟩ : ∃ e1, (s.heap.update D (Obj.mapSeq fun _ => (#[] : Array Value))).get? D = some (seqObj "list" #[] e1) := ⟨_, get?_update_seq ho fun _ => #[]⟩
  have F3 : Fr h₀ L (((s.heap.update D (Obj.mapSeq fun _ => (#[] : Array Value))).push (seqObj "tuple" vs.toArray 0)).push (seqObj "list" #[] 0)) m := ((kas_fr F s1 nz.2.1 nz.2.2).push _).push _
  have N3 : News h₀ L (((s.heap.update D (Obj.mapSeq fun _ => (#[] : Array Value))).push (seqObj "tuple" vs.toArray 0)).push (seqObj "list" #[] 0)) (pre ++ (D, seqObj "list" #[] e1) :: post) :=
    (news_set N x1 x2 s1 ho1).grown fun b x e => Heap.get?_push_of_some _ (Heap.get?_push_of_some _ e)
  have ho2 := (N3 (D, seqObj "list" #[] e1) (List.mem_append_right _ (.head _))).1
  refine wpAny_call_entry slot_list_sort ⟨_, nz.1, rfl⟩ entry_list_sort ?_ (args_list_sort _)
  rw [list_sort_plain]
  refine wpAny_bind (listItems_at ho rfl ?_)
  refine wpAny_bind (listUpdate_at ho rfl ?_ (by rw [List.size_toArray, sizeLine_eq]; lia) (Nat.zero_le _))
  refine wpAny_bind (seqEpoch_at ho1 rfl ?_)
  refine wpAny_bind (wpAny_newTuple ?_ (by show vs.length ≤ _; rw [sizeLine_eq]; lia))
  refine wpAny_bind (wpAny_newList ?_ (Nat.zero_le _))
  refine wpAny_holding ?_
  show wpAny (model prog w) _ _ _ E { s with heap := ((s.heap.update D (Obj.mapSeq fun _ => (#[] : Array Value))).push (seqObj "tuple" vs.toArray 0)).push (seqObj "list" #[] 0) }
  dsimp only
  have hn2 : vs.toArray.size < 2 := by rw [List.size_toArray]; lia
  rw [if_pos hn2, if_pos hn2]
  refine wpAny_bind (wpAny_pure ?_)
  refine wpAny_bind ?_
  refine wpAny_of_eq (a := ((), SortSt.mk' general' (vs.toArray.zip vs.toArray) #[] 7 none)) rfl ?_
  have hout : (arrOf (SortSt.mk' general' (vs.toArray.zip vs.toArray) #[] 7 none)).map (·.2) = vs.toArray := by
    show (vs.toArray.zip vs.toArray).map (·.2) = vs.toArray
    have hz : ∀ l : List Value, (l.zip l).map (·.2) = l := fun l => by induction l with
      | nil => rfl
      | cons a l ih => rw [List.zip_cons_cons, List.map_cons, ih]
    simp [hz]
  dsimp only
  rw [hout]
  have s2 := Heap.SameBut.update (((s.heap.update D (Obj.mapSeq fun _ => (#[] : Array Value))).push (seqObj "tuple" vs.toArray 0)).push (seqObj "list" #[] 0)) D (Obj.mapSeq fun _ => vs.toArray)
  obtain ⟨c2, hc2⟩ : ∃ c2, ((((s.heap.update D (Obj.mapSeq fun _ => (#[] : Array Value))).push (seqObj "tuple" vs.toArray 0)).push (seqObj "list" #[] 0)).update D (Obj.mapSeq fun _ => vs.toArray)).get? D = some (seqObj "list" vs.toArray c2) := ⟨_, get?_update_seq ho2 fun _ => vs.toArray⟩
  refine wpAny_bind (seqEpoch_at ho2 rfl ?_)
  refine wpAny_bind (listUpdate_at ho2 rfl ?_ (Nat.zero_le _) (by rw [List.size_toArray, sizeLine_eq]; lia))
  simp only [bne_self_eq_false, Bool.false_eq_true, if_false]
  refine wpAny_pure ⟨_, rfl, h _ c2 (kas_fr F3 s2 nz.2.1 nz.2.2) ?_⟩
  rw [hg]
  exact news_set N3 x1 x2 s2 hc2
theorem sort_all (hu : A.in1.units < cLine) (F : Fr h₀ L s.heap m) (N : News h₀ L s.heap news) (Y : MCls (model prog w) h₀) (U : UpdF D (W.listOf vs.toArray n) news g) (hm : ∀ o, MatsIn (g o) vs bl) (h5 : bl.length ≤ 5) (hn : (bl.map (·.1)).Nodup)
    (h : ∀ h' c vs' bl', bl'.Perm bl → bl'.Pairwise (fun a b => a.1 < b.1) → (∀ o, MatsIn (g o) vs' bl') → Fr h₀ L h' m → News h₀ L h' (g (W.listOf vs'.toArray c)) → ∀ tk, Q .none { s with heap := h', toks := tk }) :
    wpAny (model prog w) A (call (.builtin "list.sort") [.ref D]) Q E s := by
  rcases Nat.lt_or_ge bl.length 2 with h2 | h2
  · have hl := (hm default).length
    refine sort_few F N U (by lia) fun h' c F' N' => h h' c vs bl (.refl _) ?_ hm F' N' s.toks
    match bl, h2 with
    | [], _ => exact .nil
    | [a], _ => exact List.pairwise_singleton _ _
    | _ :: _ :: _, h2 => simp at h2; lia
  · exact sort_M hu F N Y U hm h2 h5 hn h
end
end
section
open PySem PySem.W PySem.Calls PySem.Spec PyProof PyProof.Rows
noncomputable def sfx (x y : List Nat) (alo blo : Nat) : Nat → Nat → Nat
  | 0, _ => 0
  | _ + 1, 0 => 0
  | i + 1, e + 1 => if alo ≤ i ∧ blo ≤ e ∧ x[i]? = y[e]? then sfx x y alo blo i e + 1 else 0
structure Mt (x y : List Nat) (alo ahi blo bhi i j k : Nat) : Prop where
  a0 : alo ≤ i
  a1 : i + k ≤ ahi
  b0 : blo ≤ j
  b1 : j + k ≤ bhi
  eq : ∀ z, z < k → x[i + z]? = y[j + z]?
theorem sfx_spec (x y : List Nat) (alo blo : Nat) : ∀ (i e : Nat), alo ≤ i → blo ≤ e → alo + sfx x y alo blo i e ≤ i ∧ blo + sfx x y alo blo i e ≤ e ∧ ∀ z, z < sfx x y alo blo i e → x[i - sfx x y alo blo i e + z]? = y[e - sfx x y alo blo i e + z]?
  | 0, e, h1, h2 => by simp only [sfx]; exact ⟨by lia, by lia, fun z hz => absurd hz (Nat.not_lt_zero z)⟩
  | i + 1, 0, h1, h2 => by simp only [sfx]; exact ⟨by lia, by lia, fun z hz => absurd hz (Nat.not_lt_zero z)⟩
  | i + 1, e + 1, h1, h2 => by
    simp only [sfx]
    split
    · rename_i h
      obtain ⟨p, q, r⟩ := sfx_spec x y alo blo i e h.1 h.2.1
      refine ⟨by lia, by lia, fun z hz => ?_⟩
      rw [show i + 1 - (sfx x y alo blo i e + 1) = i - sfx x y alo blo i e by lia, show e + 1 - (sfx x y alo blo i e + 1) = e - sfx x y alo blo i e by lia]
      rcases Nat.lt_or_ge z (sfx x y alo blo i e) with h' | h'
      · exact r z h'
      · have : z = sfx x y alo blo i e := by lia
        rw [this, show i - sfx x y alo blo i e + sfx x y alo blo i e = i by lia, show e - sfx x y alo blo i e + sfx x y alo blo i e = e by lia]
        exact h.2.2
    · exact ⟨by lia, by lia, fun z hz => absurd hz (Nat.not_lt_zero z)⟩
theorem sfx_max (x y : List Nat) (alo blo : Nat) : ∀ (k i j : Nat), alo ≤ i → blo ≤ j → (∀ z, z < k → x[i + z]? = y[j + z]?) → k ≤ sfx x y alo blo (i + k) (j + k)
  | 0, i, j, _, _, _ => Nat.zero_le _
  | k + 1, i, j, h1, h2, h => by
    have ih := sfx_max x y alo blo k i j h1 h2 fun z hz => h z (by lia)
    show k + 1 ≤ sfx x y alo blo (i + k + 1) (j + k + 1)
    simp only [sfx]
    rw [if_pos ⟨by lia, by lia, h k (by lia)⟩]
    lia
structure Best (x y : List Nat) (alo ahi blo bhi : Nat) (D : Nat → Nat → Prop) (bi bj bs : Nat) : Prop where
  m : Mt x y alo ahi blo bhi bi bj bs
  d : bs = 0 ∨ D (bi + bs) (bj + bs)
  mx : ∀ i j k, Mt x y alo ahi blo bhi i j k → k = 0 ∨ D (i + k) (j + k) → k ≤ bs ∧ (k = bs → bi < i ∨ (bi = i ∧ bj ≤ j))
theorem Best.start {x y : List Nat} {alo ahi blo bhi : Nat} (h1 : alo ≤ ahi) (h2 : blo ≤ bhi) : Best x y alo ahi blo bhi (fun e _ => e ≤ alo) alo blo 0 where
  m := ⟨Nat.le_refl _, h1, Nat.le_refl _, h2, fun z hz => absurd hz (Nat.not_lt_zero z)⟩
  d := .inl rfl
  mx := fun i j k M h => by
    have a := M.a0; have b := M.b0
    refine ⟨by lia, fun _ => by lia⟩
theorem Best.skip {x y : List Nat} {alo ahi blo bhi bi bj bs : Nat} {D D' : Nat → Nat → Prop} (B : Best x y alo ahi blo bhi D bi bj bs) (h1 : ∀ p q, D p q → D' p q)
    (h2 : ∀ i j k, Mt x y alo ahi blo bhi i j k → 0 < k → D' (i + k) (j + k) → D (i + k) (j + k)) : Best x y alo ahi blo bhi D' bi bj bs where
  m := B.m
  d := B.d.imp_right (h1 _ _)
  mx := fun i j k M h => B.mx i j k M (by
    rcases Nat.eq_zero_or_pos k with hk | hk
    · exact .inl hk
    · exact .inr (h2 i j k M hk (h.resolve_left (by lia))))
theorem Best.cell {x y : List Nat} {alo ahi blo bhi bi bj bs i j : Nat} {D D' : Nat → Nat → Prop} (B : Best x y alo ahi blo bhi D bi bj bs) (hi : alo ≤ i) (hi2 : i < ahi) (hj : blo ≤ j) (hj2 : j < bhi) (he : x[i]? = y[j]?)
    (hD : ∀ p q, D p q → p < i + 1 ∨ (p = i + 1 ∧ q < j + 1)) (hD' : ∀ p q, D' p q ↔ D p q ∨ (p = i + 1 ∧ q = j + 1)) :
    (bs < sfx x y alo blo (i + 1) (j + 1) → Best x y alo ahi blo bhi D' (i + 1 - sfx x y alo blo (i + 1) (j + 1)) (j + 1 - sfx x y alo blo (i + 1) (j + 1)) (sfx x y alo blo (i + 1) (j + 1))) ∧
    (¬ bs < sfx x y alo blo (i + 1) (j + 1) → Best x y alo ahi blo bhi D' bi bj bs) := by
  obtain ⟨s1, s2, s3⟩ := sfx_spec x y alo blo (i + 1) (j + 1) (by lia) (by lia)
  have hpos : 1 ≤ sfx x y alo blo (i + 1) (j + 1) := by
    simp only [sfx]; rw [if_pos ⟨hi, hj, he⟩]; lia
  have hend : ∀ i' j' k, Mt x y alo ahi blo bhi i' j' k → i' + k = i + 1 → j' + k = j + 1 → k ≤ sfx x y alo blo (i + 1) (j + 1) := fun i' j' k M h1 h2 => by
    have := sfx_max x y alo blo k i' j' M.a0 M.b0 M.eq
    rwa [h1, h2] at this
  generalize sfx x y alo blo (i + 1) (j + 1) = s at s1 s2 s3 hpos hend ⊢
  have t1 : s ≤ i + 1 := Nat.le_trans (Nat.le_add_left _ _) s1
  have t2 : s ≤ j + 1 := Nat.le_trans (Nat.le_add_left _ _) s2
  have q1 : i + 1 - s + s = i + 1 := Nat.sub_add_cancel t1
  have q2 : j + 1 - s + s = j + 1 := Nat.sub_add_cancel t2
  refine ⟨fun hs => ⟨⟨Nat.le_sub_of_add_le s1, Nat.le_trans (Nat.le_of_eq q1) hi2, Nat.le_sub_of_add_le s2, Nat.le_trans (Nat.le_of_eq q2) hj2, s3⟩, .inr ((hD' _ _).mpr (.inr ⟨q1, q2⟩)), fun i' j' k M h => ?_⟩, fun hs => ⟨B.m, B.d.imp_right fun h => (hD' _ _).mpr (.inl h), fun i' j' k M h => ?_⟩⟩
  · rcases h with h | h
    · exact ⟨h ▸ Nat.zero_le _, fun e => absurd (e.symm.trans h) (Nat.ne_of_gt hpos)⟩
    · rcases (hD' _ _).mp h with h | h
      · have := Nat.lt_of_le_of_lt (B.mx i' j' k M (.inr h)).1 hs
        exact ⟨Nat.le_of_lt this, fun e => absurd e (Nat.ne_of_lt this)⟩
      · exact ⟨hend i' j' k M h.1 h.2, fun e => .inr ⟨by rw [← h.1, e, Nat.add_sub_cancel], by rw [← h.2, e, Nat.add_sub_cancel]; exact Nat.le_refl _⟩⟩
  · rcases h with h | h
    · exact B.mx i' j' k M (.inl h)
    · rcases (hD' _ _).mp h with h | h
      · exact B.mx i' j' k M (.inr h)
      · have hs := Nat.not_lt.mp hs
        refine ⟨Nat.le_trans (hend i' j' k M h.1 h.2) hs, fun hk => ?_⟩
        subst hk
        rcases B.d with hb | hb
        · exact absurd (Nat.le_trans hpos (Nat.le_trans hs (Nat.le_of_eq hb))) (Nat.not_succ_le_zero 0)
        · exact (hD _ _ hb).imp (fun q => Nat.lt_of_add_lt_add_right (h.1 ▸ q)) fun q => ⟨Nat.add_right_cancel (q.1.trans h.1.symm), Nat.le_of_lt (Nat.lt_of_add_lt_add_right (h.2 ▸ q.2))⟩
noncomputable def BestOf (x y : List Nat) (alo ahi blo bhi bi bj bs : Nat) : Prop :=
  Mt x y alo ahi blo bhi bi bj bs ∧ ∀ i j k, Mt x y alo ahi blo bhi i j k → k ≤ bs ∧ (k = bs → bi < i ∨ (bi = i ∧ bj ≤ j))
theorem Best.all {x y : List Nat} {alo ahi blo bhi bi bj bs : Nat} {D : Nat → Nat → Prop} (B : Best x y alo ahi blo bhi D bi bj bs) (h : ∀ p q, p ≤ ahi → D p q) : BestOf x y alo ahi blo bhi bi bj bs :=
  ⟨B.m, fun i j k M => B.mx i j k M (.inr (h _ _ M.a1))⟩
theorem BestOf.before {x y : List Nat} {alo ahi blo bhi bi bj bs : Nat} (B : BestOf x y alo ahi blo bhi bi bj bs) (h1 : alo < bi) (h2 : blo < bj) : x[bi - 1]? ≠ y[bj - 1]? := by
  intro e
  have M := B.1
  have a0 := M.a0; have a1 := M.a1; have b0 := M.b0; have b1 := M.b1
  have := (B.2 (bi - 1) (bj - 1) (bs + 1) ⟨by lia, by lia, by lia, by lia, fun z hz => by
    rcases Nat.eq_zero_or_pos z with hz0 | hz0
    · rw [hz0]; exact e
    · have := M.eq (z - 1) (by lia)
      rwa [show bi + (z - 1) = bi - 1 + z by lia, show bj + (z - 1) = bj - 1 + z by lia] at this⟩).1
  lia
theorem BestOf.behind {x y : List Nat} {alo ahi blo bhi bi bj bs : Nat} (B : BestOf x y alo ahi blo bhi bi bj bs) (h1 : bi + bs < ahi) (h2 : bj + bs < bhi) : x[bi + bs]? ≠ y[bj + bs]? := by
  intro e
  have M := B.1
  have a0 := M.a0; have a1 := M.a1; have b0 := M.b0; have b1 := M.b1
  have := (B.2 bi bj (bs + 1) ⟨by lia, by lia, by lia, by lia, fun z hz => by
    rcases Nat.lt_or_ge z bs with h | h
    · exact M.eq z h
    · have : z = bs := by lia
      rw [this]; exact e⟩).1
  lia
end
section
open PySem PySem.W PySem.Calls PySem.Spec PyProof PyProof.Rows
theorem valueAt_stored {kvs : List (Int × Value)} {k q : Int} {v : Value} : valueAt (stored kvs k v) q = if q = k then some v else valueAt kvs q := by
  unfold stored
  split
  · rename_i h
    induction kvs with
    | nil => simp at h
    | cons a r ih =>
      obtain ⟨ak, av⟩ := a
      unfold valueAt at ih ⊢
      rw [List.map_cons, List.find?_cons, List.find?_cons]
      by_cases hk : ak = k
      · subst hk
        by_cases hq : q = ak
        · subst hq; simp
        · have hq' : ¬ ak = q := fun e => hq e.symm
          simp only [if_pos, hq', hq, decide_false, if_false, Bool.false_eq_true]
          by_cases hr : (r.any fun kv => kv.1 = ak) = true
          · have := ih hr; rw [if_neg hq] at this; exact this
          · have e : r.map (fun kv => if kv.1 = ak then (kv.1, v) else kv) = r := by
              conv => rhs; rw [← List.map_id r]
              refine List.map_congr_left fun x hx => ?_
              rw [if_neg]; rfl
              intro e; exact hr (List.any_eq_true.mpr ⟨x, hx, by simp [e]⟩)
            rw [e]
      · have hr : (r.any fun kv => kv.1 = k) = true := by simpa [hk] using h
        have := ih hr
        by_cases hq : q = ak
        · subst hq; simp [hk]
        · have hq' : ¬ ak = q := fun e => hq e.symm
          simp only [hk, if_false, hq', decide_false]
          exact this
  · rename_i h
    unfold valueAt
    rw [List.find?_append]
    by_cases hq : q = k
    · subst hq
      have : kvs.find? (fun kv => decide (kv.1 = q)) = none := by
        rw [List.find?_eq_none]
        intro x hx e
        exact h (List.any_eq_true.mpr ⟨x, hx, e⟩)
      rw [this]; simp
    · have hq' : ¬ k = q := fun e => hq e.symm
      simp [hq, hq']
noncomputable def DictOk (x y : List Nat) (alo blo bhi i : Nat) (kvs : List (Int × Value)) : Prop := ∀ e : Nat, e ≤ bhi → (valueAt kvs ((e : Int) - 1) = none ∧ sfx x y alo blo i e = 0) ∨ ∃ t, valueAt kvs ((e : Int) - 1) = some (.int (sfx x y alo blo i e : Nat) t)
noncomputable def NewOk (x y : List Nat) (alo blo bhi i : Nat) (P : List Nat) (kvs : List (Int × Value)) : Prop :=
  ∀ e : Nat, e ≤ bhi → (valueAt kvs ((e : Int) - 1) = none ∧ ∀ p ∈ P, blo ≤ p → e ≠ p + 1) ∨ ∃ t, valueAt kvs ((e : Int) - 1) = some (.int (sfx x y alo blo (i + 1) e : Nat) t)
noncomputable def Dz (i : Nat) (P : List Nat) : Nat → Nat → Prop := fun p q => p ≤ i ∨ (p = i + 1 ∧ ∃ e ∈ P, q = e + 1)
section
variable {x y : List Nat} {alo ahi blo bhi i bi bj bs p : Nat} {P : List Nat} {kvs : List (Int × Value)}
theorem NewOk.nil : NewOk x y alo blo bhi i [] [] := fun e _ => .inl ⟨rfl, fun p h => nomatch h⟩
theorem NewOk.skip (h : NewOk x y alo blo bhi i P kvs) (hp : p < blo) : NewOk x y alo blo bhi i (P ++ [p]) kvs := fun e he => by
  rcases h e he with ⟨a, b⟩ | a
  · refine .inl ⟨a, fun q hq hq2 => ?_⟩
    rcases List.mem_append.mp hq with hq | hq
    · exact b q hq hq2
    · rw [List.mem_singleton.mp hq] at hq2; lia
  · exact .inr a
theorem NewOk.store (h : NewOk x y alo blo bhi i P kvs) (t : Tok) : NewOk x y alo blo bhi i (P ++ [p]) (stored kvs (p : Int) (.int (sfx x y alo blo (i + 1) (p + 1) : Nat) t)) := fun e he => by
  rw [valueAt_stored]
  by_cases hk : (e : Int) - 1 = (p : Int)
  · rw [if_pos hk]
    have : e = p + 1 := by lia
    subst this
    exact .inr ⟨t, rfl⟩
  · rw [if_neg hk]
    rcases h e he with ⟨a, b⟩ | a
    · refine .inl ⟨a, fun q hq hq2 => ?_⟩
      rcases List.mem_append.mp hq with hq | hq
      · exact b q hq hq2
      · rw [List.mem_singleton.mp hq]; lia
    · exact .inr a
theorem NewOk.done (h : NewOk x y alo blo bhi i P kvs) (hall : ∀ e, blo ≤ e → e < bhi → x[i]? = y[e]? → e ∈ P) : DictOk x y alo blo bhi (i + 1) kvs := fun e he => by
  rcases h e he with ⟨a, b⟩ | a
  · refine .inl ⟨a, ?_⟩
    cases e with
    | zero => rfl
    | succ e =>
      simp only [sfx]
      rw [if_neg]
      rintro ⟨_, h2, h3⟩
      exact b e (hall e h2 (by lia) h3) h2 rfl
  · exact .inr a
theorem Best.row (B : Best x y alo ahi blo bhi (fun e _ => e ≤ i) bi bj bs) : Best x y alo ahi blo bhi (Dz i []) bi bj bs :=
  B.skip (fun _ _ h => .inl h) fun _ _ _ _ _ h => h.elim id fun ⟨_, _, h, _⟩ => nomatch h
theorem Best.low (B : Best x y alo ahi blo bhi (Dz i P) bi bj bs) (hp : p < blo) : Best x y alo ahi blo bhi (Dz i (P ++ [p])) bi bj bs :=
  B.skip (fun _ _ h => h.imp_right fun ⟨a, e, he, q⟩ => ⟨a, e, List.mem_append_left _ he, q⟩) fun i' j' k M hk h => by
    rcases h with h | ⟨h, e, he, q⟩
    · exact .inl h
    · rcases List.mem_append.mp he with he | he
      · exact .inr ⟨h, e, he, q⟩
      · have := M.b0
        rw [List.mem_singleton.mp he] at q; lia
theorem Best.at (B : Best x y alo ahi blo bhi (Dz i P) bi bj bs) (hi : alo ≤ i) (hi2 : i < ahi) (hj : blo ≤ p) (hj2 : p < bhi) (he : x[i]? = y[p]?) (hP : ∀ q ∈ P, q < p) :
    (bs < sfx x y alo blo (i + 1) (p + 1) → Best x y alo ahi blo bhi (Dz i (P ++ [p])) (i + 1 - sfx x y alo blo (i + 1) (p + 1)) (p + 1 - sfx x y alo blo (i + 1) (p + 1)) (sfx x y alo blo (i + 1) (p + 1))) ∧
    (¬ bs < sfx x y alo blo (i + 1) (p + 1) → Best x y alo ahi blo bhi (Dz i (P ++ [p])) bi bj bs) := by
  refine B.cell hi hi2 hj hj2 he (fun a b h => ?_) fun a b => ⟨fun h => ?_, fun h => ?_⟩
  · rcases h with h | ⟨h, e, he, q⟩
    · exact .inl (by lia)
    · have := hP e he
      exact .inr ⟨h, by lia⟩
  · rcases h with h | ⟨h, e, he, q⟩
    · exact .inl (.inl h)
    · rcases List.mem_append.mp he with he | he
      · exact .inl (.inr ⟨h, e, he, q⟩)
      · exact .inr ⟨h, by rw [List.mem_singleton.mp he] at q; exact q⟩
  · rcases h with (h | ⟨h, e, he, q⟩) | ⟨h, q⟩
    · exact .inl h
    · exact .inr ⟨h, e, List.mem_append_left _ he, q⟩
    · exact .inr ⟨h, p, List.mem_append_right _ (.head _), q⟩
theorem Best.done (B : Best x y alo ahi blo bhi (Dz i P) bi bj bs) (hall : ∀ e, blo ≤ e → e < bhi → x[i]? = y[e]? → e ∈ P) : Best x y alo ahi blo bhi (fun e _ => e ≤ i + 1) bi bj bs :=
  B.skip (fun _ _ h => h.elim (fun h => Nat.le_succ_of_le h) fun h => Nat.le_of_eq h.1) fun i' j' k M hk h => by
    have a0 := M.a0; have b0 := M.b0; have b1 := M.b1
    rcases Nat.lt_or_ge (i' + k) (i + 1) with h1 | h1
    · exact .inl (by lia)
    · have h2 : i' + k = i + 1 := by lia
      refine .inr ⟨h2, j' + k - 1, hall _ (by lia) (by lia) ?_, by lia⟩
      have := M.eq (k - 1) (by lia)
      rwa [show i' + (k - 1) = i by lia, show j' + (k - 1) = j' + k - 1 by lia] at this
end
theorem occ_mem {l : List Nat} {n c e : Nat} : e ∈ occ l n c ↔ e < n ∧ l[e]? = some c := by
  unfold occ
  rw [List.mem_filter, List.mem_range]
  simp
theorem occ_lt {l : List Nat} {n c : Nat} : (occ l n c).Pairwise (· < ·) := List.Pairwise.filter _ List.pairwise_lt_range
theorem take_lt {P : List Nat} (h : P.Pairwise (· < ·)) {z p : Nat} (hp : P[z]? = some p) : ∀ q ∈ P.take z, q < p := by
  intro q hq
  obtain ⟨k, hk, rfl⟩ := List.getElem_of_mem hq
  rw [List.length_take] at hk
  have hz : z < P.length := by
    rcases Nat.lt_or_ge z P.length with h | h
    · exact h
    · rw [List.getElem?_eq_none h] at hp; cases hp
  rw [List.getElem_take]
  rw [List.getElem?_eq_getElem hz] at hp
  cases hp
  exact List.pairwise_iff_getElem.mp h k z (by lia) hz (by lia)
theorem take_step {P : List Nat} {z p : Nat} (hp : P[z]? = some p) : P.take (z + 1) = P.take z ++ [p] := by
  rw [List.take_add_one, hp]; rfl
theorem rest_ge {P : List Nat} (h : P.Pairwise (· < ·)) {z p : Nat} (hp : P[z]? = some p) {e : Nat} (he : e ∈ P) (hlt : e < p) : e ∈ P.take z := by
  obtain ⟨k, hk, rfl⟩ := List.getElem_of_mem he
  have hz : z < P.length := by
    rcases Nat.lt_or_ge z P.length with h | h
    · exact h
    · rw [List.getElem?_eq_none h] at hp; cases hp
  rw [List.getElem?_eq_getElem hz] at hp
  cases hp
  have hkz : k < z := by
    rcases Nat.lt_or_ge k z with h' | h'
    · exact h'
    · rcases Nat.eq_or_lt_of_le h' with rfl | h'
      · lia
      · have := List.pairwise_iff_getElem.mp h z k hz hk h'; lia
  rw [List.mem_take_iff_getElem]
  exact ⟨k, by lia, rfl⟩
end
section
open PySem PySem.W PySem.Calls PySem.Spec PyProof PyProof.Rows PySem.Builtin PySem.Builtin.Str
theorem slice_from (x : Str) (i : Nat) : Txt.slice x (some (i : Int)) none = ⟨(x.cps.toList.drop i).toArray⟩ := by
  have e : Txt.slice x (some (i : Int)) none = Txt.slice x (some (i : Int)) (some ((x.length + i : Nat) : Int)) := by
    unfold Txt.slice
    have : strSliceIndices (some (i : Int)) none 1 x.length = strSliceIndices (some (i : Int)) (some ((x.length + i : Nat) : Int)) 1 x.length := by
      have h0 : ¬ (i : Int) < 0 := by lia
      have h1 : ¬ ((x.length + i : Nat) : Int) < 0 := by lia
      have h2 : (1 : Int) > 0 := by decide
      have h3 : min ((x.length + i : Nat) : Int) (x.length : Int) = x.length := by lia
      have h4 : max (0 : Int) (x.length : Int) = x.length := by lia
      simp only [strSliceIndices, h0, h1, h2, if_false, if_true, h3, h4]
    rw [this]
  rw [e, slice_ij x i (x.length + i) (by lia)]
  congr 2
  rw [List.take_of_length_le]
  rw [List.length_drop]
  have : x.length = x.cps.toList.length := by simp [Str.length]
  lia
theorem slice_to (x : Str) (j : Nat) : Txt.slice x none (some (j : Int)) = ⟨(x.cps.toList.take j).toArray⟩ := by
  have e : Txt.slice x none (some (j : Int)) = Txt.slice x (some ((0 : Nat) : Int)) (some (j : Int)) := by
    unfold Txt.slice
    have : strSliceIndices none (some (j : Int)) 1 x.length = strSliceIndices (some ((0 : Nat) : Int)) (some (j : Int)) 1 x.length := by
      have h0 : ¬ ((0 : Nat) : Int) < 0 := by lia
      have h2 : (1 : Int) > 0 := by decide
      have h3 : min ((0 : Nat) : Int) (x.length : Int) = 0 := by lia
      have h4 : max (0 : Int) 0 = 0 := by lia
      simp only [strSliceIndices, h0, h2, if_false, if_true, h3, h4]
    rw [this]
  rw [e, slice_ij x 0 j (by lia)]
  simp
noncomputable def fits (f g : List Nat) (b : Nat × Nat × Nat) : Prop := b.1 + b.2.2 ≤ f.length ∧ b.2.1 + b.2.2 ≤ g.length
theorem better_fits {f g : List Nat} {i j : Nat} {b : Nat × Nat × Nat} (hi : i ≤ f.length) (hj : j ≤ g.length) (h : fits f g b) : fits f g (better f g i j b) := by
  unfold better
  split
  · have := lcp_le (f.drop i) (g.drop j)
    simp only [List.length_drop] at this
    exact ⟨by show i + lcp _ _ ≤ _; lia, by show j + lcp _ _ ≤ _; lia⟩
  · exact h
theorem row_fits {f g : List Nat} {i : Nat} (hi : i ≤ f.length) : ∀ n b, n ≤ g.length → fits f g b → fits f g (row f g i n b)
  | 0, b, _, h => h
  | n + 1, b, hn, h => by
    rw [row_succ]
    exact better_fits hi (by lia) (row_fits hi n b (by lia) h)
theorem rows_fits {f g : List Nat} : ∀ n, n ≤ f.length → fits f g (rows f g n)
  | 0, _ => ⟨Nat.zero_le _, Nat.zero_le _⟩
  | n + 1, hn => by
    rw [rows_succ]
    exact row_fits (by lia) _ _ (Nat.le_refl _) (rows_fits n (by lia))
theorem longest_fits (f g : List Nat) : fits f g (longest f g) := rows_fits _ (Nat.le_refl _)
noncomputable def blocksM : Nat → List Nat → List Nat → Nat → Nat → List (Nat × Nat × Nat)
  | 0, _, _, _, _ => []
  | n + 1, f, g, i, j => if (longest f g).2.2 = 0 then [] else
    blocksM n (f.take (longest f g).1) (g.take (longest f g).2.1) i j ++ [(i + (longest f g).1, j + (longest f g).2.1, (longest f g).2.2)] ++
      blocksM n (f.drop ((longest f g).1 + (longest f g).2.2)) (g.drop ((longest f g).2.1 + (longest f g).2.2)) (i + (longest f g).1 + (longest f g).2.2) (j + (longest f g).2.1 + (longest f g).2.2)
noncomputable def TupsIn (led : List (Addr × Obj)) : List Value → List (Nat × Nat × Nat) → Prop
  | [], [] => True
  | v :: vs, b :: bl => (∃ a x y z, v = .ref a ∧ (a, tup3 b x y z) ∈ led) ∧ TupsIn led vs bl
  | _, _ => False
theorem TupsIn.more {led led' : List (Addr × Obj)} (hs : ∀ p ∈ led, p ∈ led') : ∀ {vs : List Value} {bl : List (Nat × Nat × Nat)}, TupsIn led vs bl → TupsIn led' vs bl
  | [], [], _ => trivial
  | _ :: _, _ :: _, ⟨⟨a, x, y, z, e, e'⟩, T⟩ => ⟨⟨a, x, y, z, e, hs _ e'⟩, TupsIn.more hs T⟩
  | [], _ :: _, T => T.elim
  | _ :: _, [], T => T.elim
theorem TupsIn.append {led : List (Addr × Obj)} : ∀ {vs : List Value} {bl : List (Nat × Nat × Nat)} {vs' : List Value} {bl' : List (Nat × Nat × Nat)}, TupsIn led vs bl → TupsIn led vs' bl' → TupsIn led (vs ++ vs') (bl ++ bl')
  | [], [], _, _, _, T' => T'
  | _ :: _, _ :: _, _, _, ⟨a, T⟩, T' => ⟨a, TupsIn.append T T'⟩
  | [], _ :: _, _, _, T, _ => T.elim
  | _ :: _, [], _, _, T, _ => T.elim
theorem TupsIn.length {led : List (Addr × Obj)} : ∀ {vs : List Value} {bl : List (Nat × Nat × Nat)}, TupsIn led vs bl → vs.length = bl.length
  | [], [], _ => rfl
  | _ :: _, _ :: _, ⟨_, T⟩ => congrArg (· + 1) (TupsIn.length T)
  | [], _ :: _, T => T.elim
  | _ :: _, [], T => T.elim
theorem blocksM_length : ∀ (n : Nat) (f g : List Nat) (i j : Nat), (blocksM n f g i j).length ≤ f.length
  | 0, _, _, _, _ => Nat.zero_le _
  | n + 1, f, g, i, j => by
    unfold blocksM
    have hf := longest_fits f g
    unfold fits at hf
    split
    · exact Nat.zero_le _
    · have h1 := blocksM_length n (f.take (longest f g).1) (g.take (longest f g).2.1) i j
      have h2 := blocksM_length n (f.drop ((longest f g).1 + (longest f g).2.2)) (g.drop ((longest f g).2.1 + (longest f g).2.2)) (i + (longest f g).1 + (longest f g).2.2) (j + (longest f g).2.1 + (longest f g).2.2)
      simp only [List.length_append, List.length_cons, List.length_nil, List.length_take, List.length_drop] at *
      lia
section
variable {prog : Program} {w : World} {A : Around} {E : Value → Shared → Prop} {s : Shared} {h₀ : Heap} {L D : Addr} {m : Str → Option Value} {news news' : List (Addr × Obj)} {n : Nat}
theorem seqIndex_last (qs : List Value) (x : Value) : seqIndex? (-1) (qs ++ [x]).length = some qs.length := by
  rw [PySem.seqIndex_neg (by decide) (by simp; lia)]
  simp
  lia
theorem setL_last (v x : Value) : ∀ qs : List Value, ki_setL (qs ++ [x]) qs.length v = some (qs ++ [v])
  | [] => rfl
  | q :: qs => by simp [ki_setL, setL_last v x qs]
theorem setLast {qs : List Value} {x v : Value} {t : Tok} {Q : Unit → Shared → Prop} (F : Fr h₀ L s.heap m) (N : News h₀ L s.heap news) (U : Upd D (listOf (qs ++ [x]).toArray n) (listOf (qs ++ [v]).toArray n) news news')
    (h : ∀ h', Fr h₀ L h' m → News h₀ L h' news' → Q () { s with heap := h' }) : wpAny (model prog w) A (setItem (.ref D) (.int (-1) t) v) Q E s :=
  ki_setNeg F N (by decide) (by decide) (j := qs.length) (q := qs ++ [v]) (by rw [List.size_toArray]; exact seqIndex_last qs x) (by simpa using setL_last v x qs) U h
theorem getLast {value slice : PySem.Expr} {qs : List Value} {x : Value} {t : Tok} {Q : Value → Shared → Prop} (N : News h₀ L s.heap news) (hm : (D, listOf (qs ++ [x]).toArray n) ∈ news) (h : Q x s)
    (hs : subscripted slice false (.ref D) (.int (-1) t) = operate [.ref D, .int (-1) t] (getItem (.ref D) (.int (-1) t)) := by with_unfolding_all rfl) :
    wpAny (model prog w) A (subscriptTail value slice (.ref D) (.int (-1) t)) Q E s :=
  kde_neg (vs := qs ++ [x]) ⟨_, N.get hm, rfl, _, rfl⟩ (by decide) (by decide) (seqIndex_last qs x) (by simp) h hs
end
theorem str_app (a b : List Nat) : (⟨a.toArray⟩ : Str) ++ ⟨b.toArray⟩ = ⟨(a ++ b).toArray⟩ := str_ext (by simp [Str.cps_append])
theorem slice_add (x : Str) (i z : Nat) : Txt.slice x (some (i : Int)) (some ((i : Int) + (z : Int))) = ⟨((x.cps.toList.drop i).take z).toArray⟩ := by
  rw [show ((i : Int) + (z : Int)) = ((i + z : Nat) : Int) by lia, slice_ij x i (i + z) (by lia)]
  simp
end
section
open PySem PySem.W PySem.Calls PySem.Spec PyProof PyProof.Rows
noncomputable def TupsAt (h : Heap) : List Value → List (Nat × Nat × Nat) → Prop
  | [], [] => True
  | v :: vs, b :: bl => (∃ a x y z, v = .ref a ∧ h.get? a = some (tup3 b x y z)) ∧ TupsAt h vs bl
  | _, _ => False
theorem TupsAt.get {h : Heap} : ∀ {vs : List Value} {bl : List (Nat × Nat × Nat)} (_ : TupsAt h vs bl) {i : Nat} {v : Value}, vs[i]? = some v → ∃ a b x y z, bl[i]? = some b ∧ v = .ref a ∧ h.get? a = some (tup3 b x y z)
  | [], _, _, i, v, e => by simp at e
  | _ :: _, b :: _, ⟨⟨a, x, y, z, e1, e2⟩, _⟩, 0, v, e => by
    simp at e; subst e; exact ⟨a, b, x, y, z, rfl, e1, e2⟩
  | _ :: _, _ :: _, ⟨_, T⟩, i + 1, v, e => by
    simp only [List.getElem?_cons_succ] at e ⊢
    exact T.get e
  | _ :: _, [], T, _, _, _ => T.elim
theorem TupsAt.length {h : Heap} : ∀ {vs : List Value} {bl : List (Nat × Nat × Nat)}, TupsAt h vs bl → vs.length = bl.length
  | [], [], _ => rfl
  | _ :: _, _ :: _, ⟨_, T⟩ => congrArg (· + 1) (TupsAt.length T)
  | [], _ :: _, T => T.elim
  | _ :: _, [], T => T.elim
noncomputable def okB : Nat → Nat → List (Nat × Nat × Nat) → Prop
  | i, j, [] => i ≤ 8 ∧ j ≤ 8
  | i, j, b :: r => i ≤ b.1 ∧ j ≤ b.2.1 ∧ okB (b.1 + b.2.2) (b.2.1 + b.2.2) r
abbrev JSt := List (List Nat) × List Nat × List Nat × Nat × Nat
noncomputable def joinStep (f g : List Nat) (st : JSt) (b : Nat × Nat × Nat) : JSt :=
  ((if b.1 > st.2.2.2.1 ∨ b.2.1 > st.2.2.2.2 then (st.1 ++ [st.2.1], []) else (st.1, st.2.1)).1,
   (if b.1 > st.2.2.2.1 ∨ b.2.1 > st.2.2.2.2 then (st.1 ++ [st.2.1], []) else (st.1, st.2.1)).2 ++ (f.drop b.1).take b.2.2,
   st.2.2.1 ++ (f.drop st.2.2.2.1).take (b.1 - st.2.2.2.1) ++ (g.drop st.2.2.2.2).take (b.2.1 - st.2.2.2.2) ++ (f.drop b.1).take b.2.2,
   b.1 + b.2.2, b.2.1 + b.2.2)
noncomputable def joinM (f g : List Nat) (bl : List (Nat × Nat × Nat)) : JSt := bl.foldl (joinStep f g) ([], [], [], 0, 0)
noncomputable def StrsOf : List Value → List (List Nat) → Prop
  | [], [] => True
  | v :: vs, x :: xs => (∃ t, v = .str ⟨x.toArray⟩ t) ∧ StrsOf vs xs
  | _, _ => False
theorem okB_le : ∀ {i j : Nat} {l : List (Nat × Nat × Nat)}, okB i j l → i ≤ 8 ∧ j ≤ 8
  | _, _, [], h => h
  | i, j, b :: r, ⟨h1, h2, h3⟩ => by have := okB_le h3; omega
theorem take_succ_of {α : Type} {l : List α} {i : Nat} {a : α} (h : l[i]? = some a) : l.take (i + 1) = l.take i ++ [a] := by rw [List.take_add_one, h]; rfl
theorem joinM_succ {f g : List Nat} {bl : List (Nat × Nat × Nat)} {i : Nat} {b : Nat × Nat × Nat} (h : bl[i]? = some b) : joinM f g (bl.take (i + 1)) = joinStep f g (joinM f g (bl.take i)) b := by
  unfold joinM; rw [take_succ_of h, List.foldl_append]; rfl
theorem joinM_ok (f g : List Nat) (bl : List (Nat × Nat × Nat)) (hb : okB 0 0 bl) : ∀ i, i ≤ bl.length →
    okB (joinM f g (bl.take i)).2.2.2.1 (joinM f g (bl.take i)).2.2.2.2 (bl.drop i) ∧ (joinM f g (bl.take i)).2.1.length ≤ (joinM f g (bl.take i)).2.2.2.1 ∧
    (joinM f g (bl.take i)).2.2.1.length ≤ (joinM f g (bl.take i)).2.2.2.1 + (joinM f g (bl.take i)).2.2.2.2 ∧ (joinM f g (bl.take i)).1.length ≤ i
  | 0, _ => by simpa [joinM] using hb
  | i + 1, hi => by
    obtain ⟨h1, h2, h3, h4⟩ := joinM_ok f g bl hb i (by omega)
    have e : bl[i]? = some bl[i] := List.getElem?_eq_getElem (by omega)
    rw [joinM_succ e]
    generalize joinM f g (bl.take i) = st at h1 h2 h3 h4
    rw [List.drop_eq_getElem_cons (by omega : i < bl.length)] at h1
    obtain ⟨k1, k2, k3⟩ := h1
    refine ⟨k3, ?_, ?_, ?_⟩
    · have l1 : ((f.drop bl[i].1).take bl[i].2.2).length ≤ bl[i].2.2 := List.length_take_le ..
      unfold joinStep
      dsimp only
      rw [List.length_append]
      refine Nat.add_le_add ?_ l1
      split
      · exact Nat.zero_le _
      · exact Nat.le_trans h2 k1
    · have l1 : ((f.drop bl[i].1).take bl[i].2.2).length ≤ bl[i].2.2 := List.length_take_le ..
      have l2 : ((f.drop st.2.2.2.1).take (bl[i].1 - st.2.2.2.1)).length ≤ bl[i].1 - st.2.2.2.1 := List.length_take_le ..
      have l3 : ((g.drop st.2.2.2.2).take (bl[i].2.1 - st.2.2.2.2)).length ≤ bl[i].2.1 - st.2.2.2.2 := List.length_take_le ..
      unfold joinStep
      simp only [List.length_append]
      refine Nat.le_trans (Nat.add_le_add (Nat.add_le_add (Nat.add_le_add h3 l2) l3) l1) ?_
      clear l1 l2 l3 h2 h3 h4 k3
      generalize bl[i].1 = b1 at *
      generalize bl[i].2.1 = b2 at *
      lia
    · unfold joinStep
      dsimp only
      split
      · rw [List.length_append]; exact Nat.succ_le_succ h4
      · exact Nat.le_succ_of_le h4
end
section
open PySem PySem.W PySem.Calls PySem.Spec PyProof PyProof.Rows
theorem lcp_ge : ∀ (k : Nat) (x y : List Nat), k ≤ lcp x y ↔ k ≤ x.length ∧ k ≤ y.length ∧ ∀ z, z < k → x[z]? = y[z]?
  | 0, x, y => by simp
  | k + 1, [], y => by simp [lcp]
  | k + 1, a :: x, [] => by simp [lcp]
  | k + 1, a :: x, b :: y => by
    simp only [lcp, List.length_cons]
    split
    · rename_i h
      subst h
      rw [Nat.add_le_add_iff_right, lcp_ge k x y, Nat.add_le_add_iff_right, Nat.add_le_add_iff_right]
      refine and_congr Iff.rfl (and_congr Iff.rfl ⟨fun h z hz => ?_, fun h z hz => ?_⟩)
      · cases z with
        | zero => rfl
        | succ z => simpa using h z (by lia)
      · simpa using h (z + 1) (by lia)
    · rename_i h
      constructor
      · intro q; lia
      · rintro ⟨_, _, q⟩
        have := q 0 (by lia)
        simp at this
        exact absurd this h
structure LInv (x y : List Nat) (V : Nat → Nat → Prop) (b : Nat × Nat × Nat) : Prop where
  le : ∀ i j, V i j → lcp (x.drop i) (y.drop j) ≤ b.2.2
  zero : b.2.2 = 0 → b = (0, 0, 0)
  best : 0 < b.2.2 → lcp (x.drop b.1) (y.drop b.2.1) = b.2.2 ∧ V b.1 b.2.1 ∧ ∀ i j, V i j → lcp (x.drop i) (y.drop j) = b.2.2 → b.1 < i ∨ (b.1 = i ∧ b.2.1 ≤ j)
theorem LInv.step {x y : List Nat} {V : Nat → Nat → Prop} {b : Nat × Nat × Nat} {i0 j0 : Nat} (h : LInv x y V b) (hV : ∀ i j, V i j → i < i0 ∨ (i = i0 ∧ j < j0)) {V' : Nat → Nat → Prop} (hV' : ∀ i j, V' i j ↔ V i j ∨ (i = i0 ∧ j = j0)) : LInv x y V' (better x y i0 j0 b) := by
  unfold better
  split
  · rename_i hgt
    refine ⟨fun i j hv => ?_, fun h0 => ?_, fun _ => ⟨rfl, (hV' _ _).mpr (.inr ⟨rfl, rfl⟩), fun i j hv he => ?_⟩⟩
    · rcases (hV' _ _).mp hv with hv | ⟨rfl, rfl⟩
      · exact Nat.le_of_lt (Nat.lt_of_le_of_lt (h.le i j hv) hgt)
      · exact Nat.le_refl _
    · exact absurd (Nat.lt_of_lt_of_eq hgt h0) (Nat.not_lt_zero _)
    · rcases (hV' _ _).mp hv with hv | ⟨rfl, rfl⟩
      · exact absurd (Nat.le_trans (Nat.le_of_eq he.symm) (h.le i j hv)) (Nat.not_le.mpr hgt)
      · exact .inr ⟨rfl, Nat.le_refl _⟩
  · rename_i hng
    refine ⟨fun i j hv => ?_, h.zero, fun hp => ?_⟩
    · rcases (hV' _ _).mp hv with hv | ⟨rfl, rfl⟩
      · exact h.le i j hv
      · exact Nat.not_lt.mp hng
    · obtain ⟨h1, h2, h3⟩ := h.best hp
      refine ⟨h1, (hV' _ _).mpr (.inl h2), fun i j hv he => ?_⟩
      rcases (hV' _ _).mp hv with hv | ⟨rfl, rfl⟩
      · exact h3 i j hv he
      · exact (hV _ _ h2).imp id fun q => ⟨q.1, Nat.le_of_lt q.2⟩
theorem row_inv {x y : List Nat} {i0 : Nat} : ∀ n b, LInv x y (fun i j => i < i0 ∧ j < y.length) b → n ≤ y.length → LInv x y (fun i j => (i < i0 ∧ j < y.length) ∨ (i = i0 ∧ j < n)) (row x y i0 n b)
  | 0, b, h, _ => ⟨fun i j hv => h.le i j (hv.resolve_right fun q => absurd q.2 (Nat.not_lt_zero _)), h.zero, fun hp =>
      ⟨(h.best hp).1, .inl (h.best hp).2.1, fun i j hv he => (h.best hp).2.2 i j (hv.resolve_right fun q => absurd q.2 (Nat.not_lt_zero _)) he⟩⟩
  | n + 1, b, h, hn => by
    rw [row_succ]
    exact (row_inv n b h (Nat.le_of_succ_le hn)).step (fun i j hv => hv.imp And.left id) fun i j => by rw [Nat.lt_succ_iff_lt_or_eq, and_or_left, or_assoc]
theorem rows_inv {x y : List Nat} : ∀ n, LInv x y (fun i j => i < n ∧ j < y.length) (rows x y n)
  | 0 => ⟨fun i j hv => absurd hv.1 (Nat.not_lt_zero _), fun _ => rfl, fun hp => absurd hp (Nat.lt_irrefl 0)⟩
  | n + 1 => by
    rw [rows_succ]
    have t := row_inv y.length _ (rows_inv (x := x) (y := y) n) (Nat.le_refl _)
    have e : ∀ i j, (i < n + 1 ∧ j < y.length) ↔ (i < n ∧ j < y.length) ∨ (i = n ∧ j < y.length) := fun i j => by rw [Nat.lt_succ_iff_lt_or_eq, or_and_right]
    exact ⟨fun i j hv => t.le i j ((e i j).mp hv), t.zero, fun hp => ⟨(t.best hp).1, (e _ _).mpr (t.best hp).2.1, fun i j hv he => (t.best hp).2.2 i j ((e i j).mp hv) he⟩⟩
theorem longest_inv (x y : List Nat) : LInv x y (fun i j => i < x.length ∧ j < y.length) (longest x y) := rows_inv _
theorem longest_le (x y : List Nat) (i j : Nat) : lcp (x.drop i) (y.drop j) ≤ (longest x y).2.2 := by
  by_cases h : i < x.length ∧ j < y.length
  · exact (longest_inv x y).le i j h
  · have := lcp_le (x.drop i) (y.drop j)
    simp only [List.length_drop] at this
    lia
noncomputable def reg (f : List Nat) (a b : Nat) : List Nat := (f.take b).drop a
theorem reg_get (f : List Nat) (a b i : Nat) : (reg f a b)[i]? = if a + i < b then f[a + i]? else none := by
  unfold reg; rw [List.getElem?_drop, List.getElem?_take]
theorem reg_len {f : List Nat} {a b : Nat} (h : b ≤ f.length) : (reg f a b).length = b - a := by
  unfold reg; rw [List.length_drop, List.length_take]; lia
theorem mt_lcp {f g : List Nat} {alo ahi blo bhi i j k : Nat} (ha : ahi ≤ f.length) (hb : bhi ≤ g.length) (hi : alo + i ≤ ahi) (hj : blo + j ≤ bhi) :
    Mt f g alo ahi blo bhi (alo + i) (blo + j) k ↔ k ≤ lcp ((reg f alo ahi).drop i) ((reg g blo bhi).drop j) := by
  rw [lcp_ge]
  simp only [List.length_drop, reg_len ha, reg_len hb, List.getElem?_drop, reg_get]
  constructor
  · intro M
    have a1 := M.a1; have b1 := M.b1
    refine ⟨by lia, by lia, fun z hz => ?_⟩
    rw [if_pos (by lia), if_pos (by lia)]
    have := M.eq z hz
    rwa [Nat.add_assoc, Nat.add_assoc] at this
  · rintro ⟨h1, h2, h3⟩
    refine ⟨by lia, by lia, by lia, by lia, fun z hz => ?_⟩
    have := h3 z hz
    rw [if_pos (by lia), if_pos (by lia)] at this
    rw [Nat.add_assoc, Nat.add_assoc]; exact this
theorem upS {a p k n : Nat} (h : a + p + k ≤ a + n) : p + k ≤ n := Nat.le_of_add_le_add_left (Nat.add_assoc a p k ▸ h)
theorem of_up {p k n : Nat} (h : p + k ≤ n) : p ≤ n := Nat.le_trans (Nat.le_add_right _ _) h
theorem ord_up {a b X Y p q : Nat} (t : X < p ∨ (X = p ∧ Y ≤ q)) : a + X < a + p ∨ (a + X = a + p ∧ b + Y ≤ b + q) :=
  t.imp (fun h => Nat.add_lt_add_left h _) fun h => ⟨congrArg _ h.1, Nat.add_le_add_left h.2 _⟩
theorem reg_lenS {f : List Nat} {a n : Nat} (h : a + n ≤ f.length) : (reg f a (a + n)).length = n := (reg_len h).trans (Nat.add_sub_cancel_left _ _)
theorem mt_lcpS {f g : List Nat} {a n b m i j k : Nat} (ha : a + n ≤ f.length) (hb : b + m ≤ g.length) (hi : i ≤ n) (hj : j ≤ m) :
    Mt f g a (a + n) b (b + m) (a + i) (b + j) k ↔ k ≤ lcp ((reg f a (a + n)).drop i) ((reg g b (b + m)).drop j) :=
  mt_lcp ha hb (Nat.add_le_add_left hi _) (Nat.add_le_add_left hj _)
theorem best_is {f g : List Nat} {a n b m : Nat} (ha : a + n ≤ f.length) (hb : b + m ≤ g.length) {X Y Z : Nat} (e : longest (reg f a (a + n)) (reg g b (b + m)) = (X, Y, Z)) :
    BestOf f g a (a + n) b (b + m) (a + X) (b + Y) Z := by
  have I := longest_inv (reg f a (a + n)) (reg g b (b + m))
  have hfit := longest_fits (reg f a (a + n)) (reg g b (b + m))
  have hle := longest_le (reg f a (a + n)) (reg g b (b + m))
  rw [e] at I hfit hle
  unfold fits at hfit
  rw [reg_lenS ha, reg_lenS hb] at hfit
  refine ⟨(mt_lcpS ha hb (of_up hfit.1) (of_up hfit.2)).mpr ?_, fun i j k M => ?_⟩
  · rcases Nat.eq_zero_or_pos Z with hz | hz
    · rw [hz]; exact Nat.zero_le _
    · exact Nat.le_of_eq (I.best hz).1.symm
  · obtain ⟨p, rfl⟩ := Nat.exists_eq_add_of_le M.a0
    obtain ⟨q, rfl⟩ := Nat.exists_eq_add_of_le M.b0
    have a1 := upS M.a1; have b1 := upS M.b1
    have hk := (mt_lcpS ha hb (of_up a1) (of_up b1)).mp M
    refine ⟨Nat.le_trans hk (hle p q), fun ek => ord_up ?_⟩
    subst ek
    rcases Nat.eq_zero_or_pos k with hz | hz
    · have e := I.zero hz
      rw [(Prod.mk.inj e).1, (Prod.mk.inj (Prod.mk.inj e).2).1]
      exact (Nat.eq_zero_or_pos p).symm.imp id fun h => ⟨h.symm, Nat.zero_le _⟩
    · exact (I.best hz).2.2 p q ⟨(reg_lenS ha).symm ▸ Nat.lt_of_lt_of_le (Nat.lt_add_of_pos_right hz) a1, (reg_lenS hb).symm ▸ Nat.lt_of_lt_of_le (Nat.lt_add_of_pos_right hz) b1⟩ (Nat.le_antisymm (hle p q) hk)
theorem BestOf.uniq {x y : List Nat} {a n b m i j k i' j' k' : Nat} (B : BestOf x y a n b m i j k) (B' : BestOf x y a n b m i' j' k') : i = i' ∧ j = j' ∧ k = k' := by
  have h := B.2 _ _ _ B'.1
  have h' := B'.2 _ _ _ B.1
  clear B B'
  lia
theorem best_lng {f g : List Nat} {a n b m p q k : Nat} (ha : a + n ≤ f.length) (hb : b + m ≤ g.length) (B : BestOf f g a (a + n) b (b + m) (a + p) (b + q) k) : longest (reg f a (a + n)) (reg g b (b + m)) = (p, q, k) := by
  obtain ⟨⟨X, Y, Z⟩, e⟩ : ∃ t, longest (reg f a (a + n)) (reg g b (b + m)) = t := ⟨_, rfl⟩
  obtain ⟨e1, e2, e3⟩ := B.uniq (best_is ha hb e)
  rw [Nat.add_left_cancel e1, Nat.add_left_cancel e2, e3, e]
theorem best_longest {f g : List Nat} {alo ahi blo bhi bi bj bs : Nat} (ha : ahi ≤ f.length) (hb : bhi ≤ g.length) (h1 : alo ≤ ahi) (h2 : blo ≤ bhi) (B : BestOf f g alo ahi blo bhi bi bj bs) :
    longest (reg f alo ahi) (reg g blo bhi) = (bi - alo, bj - blo, bs) := by
  obtain ⟨n, rfl⟩ := Nat.exists_eq_add_of_le h1
  obtain ⟨m, rfl⟩ := Nat.exists_eq_add_of_le h2
  obtain ⟨p, rfl⟩ := Nat.exists_eq_add_of_le B.1.a0
  obtain ⟨q, rfl⟩ := Nat.exists_eq_add_of_le B.1.b0
  rw [best_lng ha hb B, Nat.add_sub_cancel_left, Nat.add_sub_cancel_left]
theorem best_ex {f g : List Nat} {alo ahi blo bhi : Nat} (ha : ahi ≤ f.length) (hb : bhi ≤ g.length) (h1 : alo ≤ ahi) (h2 : blo ≤ bhi) : ∃ bi bj bs, BestOf f g alo ahi blo bhi bi bj bs := by
  obtain ⟨n, rfl⟩ := Nat.exists_eq_add_of_le h1
  obtain ⟨m, rfl⟩ := Nat.exists_eq_add_of_le h2
  exact ⟨_, _, _, best_is ha hb rfl⟩
theorem blocksM_fuel : ∀ (n k : Nat) (x y : List Nat) (i j : Nat), x.length < n → x.length < k → blocksM n x y i j = blocksM k x y i j
  | 0, _, _, _, _, _, h, _ => absurd h (Nat.not_lt_zero _)
  | _ + 1, 0, _, _, _, _, _, h => absurd h (Nat.not_lt_zero _)
  | n + 1, k + 1, x, y, i, j, h1, h2 => by
    unfold blocksM
    have hf := longest_fits x y
    unfold fits at hf
    split
    · rfl
    · rw [blocksM_fuel n k _ _ i j (by rw [List.length_take]; lia) (by rw [List.length_take]; lia),
        blocksM_fuel n k (x.drop _) _ _ _ (by rw [List.length_drop]; lia) (by rw [List.length_drop]; lia)]
noncomputable def blk (f g : List Nat) (alo ahi blo bhi : Nat) : List (Nat × Nat × Nat) := blocksM (ahi + 1) (reg f alo ahi) (reg g blo bhi) alo blo
theorem reg_take {f : List Nat} {a b n : Nat} (h : a + n ≤ b) : (reg f a b).take n = reg f a (a + n) := by
  unfold reg
  rw [List.take_drop, List.take_take, Nat.min_eq_left h]
theorem reg_drop {f : List Nat} {a b n : Nat} : (reg f a b).drop n = reg f (a + n) b := by
  unfold reg; rw [List.drop_drop]
theorem blk_zero {f g : List Nat} {alo ahi blo bhi bi bj : Nat} (ha : ahi ≤ f.length) (hb : bhi ≤ g.length) (h1 : alo ≤ ahi) (h2 : blo ≤ bhi) (B : BestOf f g alo ahi blo bhi bi bj 0) : blk f g alo ahi blo bhi = [] := by
  unfold blk blocksM
  rw [best_longest ha hb h1 h2 B, if_pos rfl]
theorem blk_step {f g : List Nat} {alo ahi blo bhi bi bj bs : Nat} (ha : ahi ≤ f.length) (hb : bhi ≤ g.length) (h1 : alo ≤ ahi) (h2 : blo ≤ bhi) (B : BestOf f g alo ahi blo bhi bi bj bs) (hp : bs ≠ 0) :
    blk f g alo ahi blo bhi = blk f g alo bi blo bj ++ [(bi, bj, bs)] ++ blk f g (bi + bs) ahi (bj + bs) bhi := by
  obtain ⟨n, rfl⟩ := Nat.exists_eq_add_of_le h1
  obtain ⟨m, rfl⟩ := Nat.exists_eq_add_of_le h2
  obtain ⟨p, rfl⟩ := Nat.exists_eq_add_of_le B.1.a0
  obtain ⟨q, rfl⟩ := Nat.exists_eq_add_of_le B.1.b0
  have a1 := of_up B.1.a1; have b1 := of_up B.1.b1
  have h : p < n := Nat.lt_of_lt_of_le (Nat.lt_add_of_pos_right (Nat.pos_of_ne_zero hp)) (upS B.1.a1)
  have h' : alo + n - (alo + p + bs) < alo + n := Nat.sub_lt (by lia) (by lia)
  unfold blk
  conv => lhs; unfold blocksM
  rw [best_lng ha hb B, if_neg hp]
  dsimp only
  rw [reg_take a1, reg_take b1, reg_drop, reg_drop, ← Nat.add_assoc, ← Nat.add_assoc,
    blocksM_fuel (alo + n) (alo + p + 1) _ _ alo blo (by rw [reg_lenS (Nat.le_trans a1 ha)]; exact Nat.lt_of_lt_of_le h (Nat.le_add_left _ _)) (by rw [reg_lenS (Nat.le_trans a1 ha)]; exact Nat.lt_succ_of_le (Nat.le_add_left _ _)),
    blocksM_fuel (alo + n) (alo + n + 1) _ _ (alo + p + bs) (blo + q + bs) (by rw [reg_len ha]; exact h') (by rw [reg_len ha]; exact Nat.lt_succ_of_lt h')]
theorem blk_none {f g : List Nat} {alo ahi blo bhi : Nat} (ha : ahi ≤ f.length) (hb : bhi ≤ g.length) (h : ahi ≤ alo ∨ bhi ≤ blo) : blk f g alo ahi blo bhi = [] := by
  unfold blk blocksM
  have hf := longest_fits (reg f alo ahi) (reg g blo bhi)
  unfold fits at hf
  rw [reg_len ha, reg_len hb] at hf
  rw [if_pos (by lia)]
noncomputable def Ahead (a b : Nat × Nat × Nat) : Prop := a.1 + a.2.2 ≤ b.1 ∧ a.2.1 + a.2.2 ≤ b.2.1 ∧ ¬ (a.1 + a.2.2 = b.1 ∧ a.2.1 + a.2.2 = b.2.1)
theorem blk_ok {f g : List Nat} : ∀ (n alo ahi blo bhi : Nat), ahi - alo ≤ n → ahi ≤ f.length → bhi ≤ g.length → alo ≤ ahi → blo ≤ bhi →
    (∀ b ∈ blk f g alo ahi blo bhi, Mt f g alo ahi blo bhi b.1 b.2.1 b.2.2 ∧ 0 < b.2.2) ∧ (blk f g alo ahi blo bhi).Pairwise Ahead := by
  intro n
  induction n with
  | zero =>
    intro alo ahi blo bhi hn ha hb h1 h2
    rw [blk_none ha hb (.inl (by lia))]
    exact ⟨(fun b h => nomatch h), .nil⟩
  | succ n ih =>
    intro alo ahi blo bhi hn ha hb h1 h2
    obtain ⟨bi, bj, bs, B⟩ := best_ex ha hb h1 h2
    rcases Nat.eq_zero_or_pos bs with hz | hz
    · subst hz
      rw [blk_zero ha hb h1 h2 B]
      exact ⟨(fun b h => nomatch h), .nil⟩
    · have M := B.1
      have a0 := M.a0; have a1 := M.a1; have b0 := M.b0; have b1 := M.b1
      rw [blk_step ha hb h1 h2 B (Nat.ne_of_gt hz)]
      have hlt : bi < ahi := Nat.lt_of_lt_of_le (Nat.lt_add_of_pos_right hz) a1
      have hlt2 : alo < bi + bs := Nat.lt_of_le_of_lt a0 (Nat.lt_add_of_pos_right hz)
      obtain ⟨l1, l2⟩ := ih alo bi blo bj (Nat.le_of_lt_succ (Nat.lt_of_lt_of_le (Nat.sub_lt_sub_right a0 hlt) hn)) (Nat.le_trans (of_up a1) ha) (Nat.le_trans (of_up b1) hb) a0 b0
      obtain ⟨r1, r2⟩ := ih (bi + bs) ahi (bj + bs) bhi (Nat.le_of_lt_succ (Nat.lt_of_lt_of_le (Nat.sub_lt_sub_left (Nat.lt_of_le_of_lt a0 hlt) hlt2) hn)) ha hb a1 b1
      refine ⟨fun b hb' => ?_, ?_⟩
      · rcases List.mem_append.mp hb' with hb' | hb'
        · rcases List.mem_append.mp hb' with hb' | hb'
          · obtain ⟨m, p⟩ := l1 b hb'
            have c0 := m.a0; have c1 := m.a1; have c2 := m.b0; have c3 := m.b1
            exact ⟨⟨c0, Nat.le_trans c1 (of_up a1), c2, Nat.le_trans c3 (of_up b1), m.eq⟩, p⟩
          · rw [List.mem_singleton.mp hb']; exact ⟨M, hz⟩
        · obtain ⟨m, p⟩ := r1 b hb'
          have c0 := m.a0; have c1 := m.a1; have c2 := m.b0; have c3 := m.b1
          exact ⟨⟨Nat.le_trans a0 (of_up c0), c1, Nat.le_trans b0 (of_up c2), c3, m.eq⟩, p⟩
      · refine List.pairwise_append.mpr ⟨List.pairwise_append.mpr ⟨l2, List.pairwise_singleton _ _, fun a ha' b hb' => ?_⟩, r2, fun a ha' b hb' => ?_⟩
        · rw [List.mem_singleton.mp hb']
          obtain ⟨m, p⟩ := l1 a ha'
          have c0 := m.a0; have c1 := m.a1; have c2 := m.b0; have c3 := m.b1
          refine ⟨c1, c3, ?_⟩
          rintro ⟨q1, q2⟩
          dsimp only at q1 q2
          have := m.eq (a.2.2 - 1) (by lia)
          rw [show a.1 + (a.2.2 - 1) = bi - 1 by lia, show a.2.1 + (a.2.2 - 1) = bj - 1 by lia] at this
          exact B.before (by lia) (by lia) this
        · obtain ⟨m, p⟩ := r1 b hb'
          have c0 := m.a0; have c1 := m.a1; have c2 := m.b0; have c3 := m.b1
          rcases List.mem_append.mp ha' with ha' | ha'
          · obtain ⟨m', p'⟩ := l1 a ha'
            have d0 := m'.a0; have d1 := m'.a1; have d2 := m'.b0; have d3 := m'.b1
            exact ⟨Nat.le_trans d1 (of_up c0), Nat.le_trans d3 (of_up c2), fun q => absurd q.1 (Nat.ne_of_lt (Nat.lt_of_le_of_lt d1 (Nat.lt_of_lt_of_le (Nat.lt_add_of_pos_right hz) c0)))⟩
          · rw [List.mem_singleton.mp ha']
            refine ⟨c0, c2, ?_⟩
            rintro ⟨q1, q2⟩
            dsimp only at q1 q2
            have := m.eq 0 p
            rw [← q1, ← q2] at this
            exact B.behind (by lia) (by lia) this
theorem ahead_count {ahi bhi : Nat} : ∀ (l : List (Nat × Nat × Nat)) (b : Nat × Nat × Nat), (∀ c ∈ b :: l, c.1 + c.2.2 ≤ ahi ∧ c.2.1 + c.2.2 ≤ bhi ∧ 0 < c.2.2) → (b :: l).Pairwise Ahead → 3 * (l.length + 1) + b.1 + b.2.1 ≤ ahi + bhi + 1
  | [], b, h, _ => by
    have := h b (.head _)
    simp only [List.length_nil]; lia
  | c :: l, b, h, hp => by
    have h1 := h b (.head _)
    obtain ⟨p1, p2⟩ := List.pairwise_cons.mp hp
    have h2 := p1 c (.head _)
    have ih := ahead_count l c (fun d hd => h d (.tail _ hd)) p2
    unfold Ahead at h2
    simp only [List.length_cons]
    lia
theorem blk_count {f g : List Nat} (hf : f.length = 8) (hg : g.length = 8) : (blk f g 0 8 0 8).length ≤ 5 := by
  obtain ⟨h1, h2⟩ := blk_ok (f := f) (g := g) 8 0 8 0 8 (by lia) (by lia) (by lia) (by lia) (by lia)
  cases hb : blk f g 0 8 0 8 with
  | nil => exact Nat.zero_le _
  | cons b l =>
    rw [hb] at h1 h2
    have := ahead_count (ahi := 8) (bhi := 8) l b (fun c hc => ⟨(h1 c hc).1.a1, (h1 c hc).1.b1, (h1 c hc).2⟩) h2
    simp only [List.length_cons]; lia
theorem ahead_lt {l : List (Nat × Nat × Nat)} (h : l.Pairwise Ahead) (hp : ∀ b ∈ l, 0 < b.2.2) : l.Pairwise (fun a b => a.1 < b.1) :=
  List.Pairwise.imp_of_mem (fun {a b} ha hb hab => by have := hp a ha; unfold Ahead at hab; lia) h
theorem sorted_eq : ∀ {l l' : List (Nat × Nat × Nat)}, l.Perm l' → l.Pairwise (fun a b => a.1 < b.1) → l'.Pairwise (fun a b => a.1 < b.1) → l = l' := by
  intro l
  induction l with
  | nil => intro l' h _ _; exact (List.Perm.nil_eq h)
  | cons a l ih =>
    intro l' h h1 h2
    cases l' with
    | nil => exact absurd h.length_eq (by simp)
    | cons b l' =>
      obtain ⟨p1, p2⟩ := List.pairwise_cons.mp h1
      obtain ⟨q1, q2⟩ := List.pairwise_cons.mp h2
      have ha : a ∈ b :: l' := h.mem_iff.mp (.head _)
      have hb : b ∈ a :: l := h.mem_iff.mpr (.head _)
      have e : a = b := by
        rcases List.mem_cons.mp ha with e | ha
        · exact e
        · rcases List.mem_cons.mp hb with e | hb
          · exact e.symm
          · have := p1 b hb; have := q1 a ha; lia
      subst e
      rw [ih (List.Perm.cons_inv h) p2 q2]
theorem okB_of {l : List (Nat × Nat × Nat)} : ∀ {i j : Nat}, l.Pairwise Ahead → (∀ b ∈ l, i ≤ b.1 ∧ j ≤ b.2.1 ∧ b.1 + b.2.2 ≤ 8 ∧ b.2.1 + b.2.2 ≤ 8) → i ≤ 8 → j ≤ 8 → okB i j (l ++ [(8, 8, 0)]) := by
  induction l with
  | nil => intro i j _ _ hi hj; exact ⟨hi, hj, by show 8 + 0 ≤ 8; lia, by show 8 + 0 ≤ 8; lia⟩
  | cons a l ih =>
    intro i j hp hb hi hj
    obtain ⟨p1, p2⟩ := List.pairwise_cons.mp hp
    have ha := hb a (.head _)
    refine ⟨ha.1, ha.2.1, ih p2 (fun b hb' => ?_) ha.2.2.1 ha.2.2.2⟩
    have := p1 b hb'
    have := hb b (.tail _ hb')
    unfold Ahead at *
    lia
theorem blk_is {f g : List Nat} (hf : f.length = 8) (hg : g.length = 8) : blk f g 0 8 0 8 = blocksM 9 f g 0 0 := by
  unfold blk reg
  rw [List.drop_zero, List.drop_zero, List.take_of_length_le (by lia), List.take_of_length_le (by lia)]
end
section
open PySem PySem.W PySem.Calls PySem.Spec PyProof PyProof.Rows
set_option linter.unusedSimpArgs false
noncomputable def RegsIn (led : List (Addr × Obj)) : List Value → List (Nat × Nat × Nat × Nat) → Prop
  | [], [] => True
  | v :: vs, b :: bl => (∃ a x y z u, v = .ref a ∧ (a, { cls := .type "tuple", data := .seq #[.int (b.1 : Nat) x, .int (b.2.1 : Nat) y, .int (b.2.2.1 : Nat) z, .int (b.2.2.2 : Nat) u] }) ∈ led) ∧ RegsIn led vs bl
  | _, _ => False
theorem RegsIn.more {led led' : List (Addr × Obj)} (hs : ∀ p ∈ led, p ∈ led') : ∀ {vs : List Value} {bl : List (Nat × Nat × Nat × Nat)}, RegsIn led vs bl → RegsIn led' vs bl
  | [], [], _ => trivial
  | _ :: _, _ :: _, ⟨⟨a, x, y, z, u, e, e'⟩, T⟩ => ⟨⟨a, x, y, z, u, e, hs _ e'⟩, RegsIn.more hs T⟩
  | [], _ :: _, T => T.elim
  | _ :: _, [], T => T.elim
theorem RegsIn.append {led : List (Addr × Obj)} : ∀ {vs : List Value} {bl : List (Nat × Nat × Nat × Nat)} {vs' : List Value} {bl' : List (Nat × Nat × Nat × Nat)}, RegsIn led vs bl → RegsIn led vs' bl' → RegsIn led (vs ++ vs') (bl ++ bl')
  | [], [], _, _, _, T' => T'
  | _ :: _, _ :: _, _, _, ⟨a, T⟩, T' => ⟨a, RegsIn.append T T'⟩
  | [], _ :: _, _, _, T, _ => T.elim
  | _ :: _, [], _, _, T, _ => T.elim
theorem RegsIn.length {led : List (Addr × Obj)} : ∀ {vs : List Value} {bl : List (Nat × Nat × Nat × Nat)}, RegsIn led vs bl → vs.length = bl.length
  | [], [], _ => rfl
  | _ :: _, _ :: _, ⟨_, T⟩ => congrArg (· + 1) (RegsIn.length T)
  | [], _ :: _, T => T.elim
  | _ :: _, [], T => T.elim
theorem RegsIn.last {led : List (Addr × Obj)} : ∀ {vs : List Value} {bl : List (Nat × Nat × Nat × Nat)} {b : Nat × Nat × Nat × Nat}, RegsIn led vs (bl ++ [b]) → ∃ vs' a x y z u, vs = vs' ++ [.ref a] ∧ RegsIn led vs' bl ∧ (a, ({ cls := .type "tuple", data := .seq #[.int (b.1 : Nat) x, .int (b.2.1 : Nat) y, .int (b.2.2.1 : Nat) z, .int (b.2.2.2 : Nat) u] } : Obj)) ∈ led
  | [], bl, b, T => by cases bl <;> exact T.elim
  | v :: vs, [], b, ⟨⟨a, x, y, z, u, e, e'⟩, T⟩ => by
    cases vs with
    | nil => exact ⟨[], a, x, y, z, u, by rw [e]; rfl, trivial, e'⟩
    | cons _ _ => exact T.elim
  | v :: vs, c :: bl, b, ⟨h, T⟩ => by
    obtain ⟨vs', a, x, y, z, u, e1, e2, e3⟩ := RegsIn.last T
    exact ⟨v :: vs', a, x, y, z, u, by rw [e1]; rfl, ⟨h, e2⟩, e3⟩
abbrev Reg := Nat × Nat × Nat × Nat
noncomputable def okReg (r : Reg) : Prop := r.1 ≤ r.2.1 ∧ r.2.1 ≤ 8 ∧ r.2.2.1 ≤ r.2.2.2 ∧ r.2.2.2 ≤ 8
noncomputable def qsum (l : List Reg) : Nat := (l.map fun r => 2 * (r.2.1 - r.1) + 1).sum
noncomputable def qblk (f g : List Nat) (l : List Reg) : List (Nat × Nat × Nat) := l.flatMap fun r => blk f g r.1 r.2.1 r.2.2.1 r.2.2.2
theorem qsum_app (a b : List Reg) : qsum (a ++ b) = qsum a + qsum b := by unfold qsum; rw [List.map_append, List.sum_append]
theorem qsum_one (r : Reg) : qsum [r] = 2 * (r.2.1 - r.1) + 1 := rfl
theorem qblk_app (f g : List Nat) (a b : List Reg) : qblk f g (a ++ b) = qblk f g a ++ qblk f g b := by unfold qblk; rw [List.flatMap_append]
theorem qblk_one (f g : List Nat) (r : Reg) : qblk f g [r] = blk f g r.1 r.2.1 r.2.2.1 r.2.2.2 := by unfold qblk; simp
theorem qsum_len : ∀ l : List Reg, l.length ≤ qsum l
  | [] => Nat.zero_le _
  | r :: l => by have := qsum_len l; unfold qsum at *; simp only [List.map_cons, List.sum_cons, List.length_cons]; lia
theorem perm_mid {fd q l r t : List (Nat × Nat × Nat)} {m : Nat × Nat × Nat} (h : (fd ++ (q ++ (l ++ [m] ++ r))).Perm t) : (fd ++ [m] ++ (q ++ (l ++ r))).Perm t := by
  refine List.Perm.trans ?_ h
  rw [List.append_assoc]
  refine List.Perm.append_left fd ?_
  rw [← List.append_assoc q, ← List.append_assoc q, ← List.append_assoc q, List.singleton_append]
  rw [List.append_assoc (q ++ l) [m] r, List.singleton_append]
  exact List.perm_middle.symm
theorem kl_last_app (qs : List Value) (v : Value) : kl_last (qs ++ [v]) = some (qs, v) := by
  induction qs with
  | nil => rfl
  | cons a qs ih =>
    cases qs with
    | nil => rfl
    | cons b qs => rw [List.cons_append, List.cons_append, kl_last]; rw [List.cons_append] at ih; rw [ih]
section
variable {f g : List Nat} {xI dI b2 jk qA mb rm : Addr} {oA oE oJ : Obj} {ta tb v1 v2 v3 : Tok} {dm : Addr} {qs : List Reg} {found : List (Nat × Nat × Nat)} {qv' fv : List Value} {tl : List (Addr × Obj)} {alo ahi blo bhi bi bj bs n : Nat} {h₀ : Heap} {L' : Addr} {w1 w2 w3 w4 w5 w6 w7 w8 : Option Value}
  {h : Heap} {tk : Nat} {S0 : Shared} {kq' kf' : Nat} {z1 z2 z3 z4 z5 z6 z7 z8 : Tok}
end
noncomputable def curOk (B : List (Nat × Nat × Nat)) (z : Nat) (c : Nat × Nat × Nat) : Prop := (z = 0 ∧ c = (0, 0, 0)) ∨ (0 < z ∧ B[z - 1]? = some c)
theorem cur_cases {B : List (Nat × Nat × Nat)} (hA : B.Pairwise Ahead) (hp : ∀ b ∈ B, 0 < b.2.2) {i : Nat} {c b : Nat × Nat × Nat} (hc : curOk B i c) (hb : B[i]? = some b) :
    (i = 0 ∧ c = (0, 0, 0)) ∨ (0 < i ∧ 0 < c.2.2 ∧ ¬ (c.1 + c.2.2 = b.1 ∧ c.2.1 + c.2.2 = b.2.1) ∧ B.take i = B.take (i - 1) ++ [c]) := by
  rcases hc with h | ⟨h, hc⟩
  · exact .inl h
  · refine .inr ⟨h, hp c (List.mem_of_getElem? hc), ?_, ?_⟩
    · have hi : i < B.length := by
        rcases Nat.lt_or_ge i B.length with h | h
        · exact h
        · rw [List.getElem?_eq_none h] at hb; cases hb
      have := List.pairwise_iff_getElem.mp hA (i - 1) i (by lia) hi (by lia)
      rw [List.getElem?_eq_getElem (by lia)] at hc hb
      rw [Option.some.inj hc, Option.some.inj hb] at this
      exact this.2.2
    · have : i = i - 1 + 1 := by lia
      conv => lhs; rw [this]
      rw [List.take_add_one, hc]; rfl
section
variable {B : List (Nat × Nat × Nat)} {xI qA mb na : Addr} {R0 own TT tn : List (Addr × Obj)} {ta tb : Tok} {u1 u2 u3 w1 w2 w3 w4 w5 w6 w7 w8 : Option Value} {i c1 c2 c3 b1 b2 b3 kn : Nat} {nv : List Value} {x1 x2 x3 : Tok} {h₀ h : Heap} {L : Addr} {tk : Nat} {S0 : Shared}
end
end
section
open PySem PySem.W PySem.Calls PySem.Spec PyProof PyProof.Rows
set_option linter.unusedSimpArgs false
noncomputable def PurA (w : World) (f : Addr) (vs : List Value) (D U : Nat) (P : Heap → Prop) (R : Heap → Value → Heap → Prop) : Prop :=
  ∀ (A : Around) (h₀ : Heap) (L : Addr) (m : Str → Option Value) (s : Shared) (Rr : Result → Shared → Prop),
    Site w A h₀ L s.heap m → A.depth + D < recursionLimit → A.units + U < cLine → P s.heap →
    (∀ r h' tk', s.heap.StaysIn h' → R s.heap r h' → Rr (.ok (.ret r)) { s with heap := h', toks := tk' }) →
    codeAny (model pw w) A (.call (.ref f) ⟨vs, []⟩) Rr s
section
variable {w : World} {D U : Nat} {P : Heap → Prop} {Rp : Heap → Value → Heap → Prop} {name qual : Str} {params : Arguments} {body : List Stmt} {scope : Scope} {dV kV doc pm cdv ct oc : Value} {an od : Option Addr} {osl : Array (Option Value)} {f : Addr} {vs : List Value} {binds : List (Str × Value)}
theorem purA_intro (hD : 1 ≤ D)
    (ho : (Kx w.params).lookup f = some ⟨oc, od, .func (fnOf name qual params body scope dV kV doc pm an cdv ct), osl⟩) (hcd : codeIn (Kx w.params) cdv qual = true)
    (hbind : ∀ s : Shared, (Kx w.params).In s.heap → BindsTo s (fnOf name qual params body scope dV kV doc pm an cdv ct) ⟨vs, []⟩ binds) (hloc : ∀ y ∈ binds, scope.names.lookup y.1 = some .local)
    (h : ∀ (dp un : Nat) (gd : Option (List Code)) (env : Env) (outer : List Env) (base : Heap) (mean : ExcName → Option Value) (mg mb : Str → Option Value) (s : Shared) (E : Value → Shared → Prop) (L' : Addr) (h₁ : Heap) (tk : Nat), dp + D < recursionLimit → un + U < cLine → P s.heap →
      Fr s.heap L' h₁ (fun y => binds.reverse.lookup y) → News s.heap L' h₁ [] → Below (topE dp un gd env outer) base (env :: outer) s.heap → (Kx w.params).In s.heap → Top vw lsW mean mg mb s.heap →
      wpAny (model pw w) ((topE dp un gd env outer).deeper (envOf qual scope L' f cdv)) (execs body (envOf qual scope L' f cdv))
        (fun fl s' => PEnd Rp s (match fl with | .ret v => v | _ => .none) s')
        (fun e s' => wpAny (model pw w) ((topE dp un gd env outer).deeper (envOf qual scope L' f cdv)) (leaving (envOf qual scope L' f cdv) e) (fun _ s'' => E e s'') (fun e' s'' => E e' s'') s')
        { s with heap := h₁, toks := tk })
    (hco : scope.isCoroutine = false) (hgen : scope.isGenerator = false) (hk : scope.kind = .function)
    (hcell : ∀ x ∈ scope.names, x.2 ≠ .cell) : PurA w f vs D U P Rp := by
  intro A h₀ L m s Rr S hd hu hP hret
  obtain ⟨hh, F, env, outer, A₀, base, mean, mg, mb, hA, hf', hke, B, X, T⟩ := S
  obtain ⟨hd', dp, fr, gd, un⟩ := A
  dsimp only at hh hA hd hu
  subst hh
  subst hA
  refine code_pur (R := Rr) (Rp := Rp) B F X T rfl hf' hke (fun r h' tk' a b => hret r h' tk' a b) ho hcd (show dp < recursionLimit by lia) (hbind s (X.keeps F.keep)) hloc (fun L' h₁ F' N' B' X' T' => ?_) hco hgen hk hcell
  exact h dp un gd env outer base mean mg mb s (fun e s'' => Rr (.error e) s'') L' h₁ _ hd hu hP F' N' B' X' T'
end
section
variable {prog : Program} {w : World} {A : Around} {E : Value → Shared → Prop} {s : Shared}
theorem len_M {t : Addr} {items : Array Value} {Q : Value → Shared → Prop} (Y : MCls (model prog w) s.heap) (ht : IsM s.heap t items) (hsz : items.size < 1000)
    (h : Q (.int items.size (s.toks + 1)) { s with toks := s.toks + 1 + 1 }) : wpAny (model prog w) A (call (.builtin "len") [.ref t]) Q E s := by
  obtain ⟨o, ho, hc, n, hd⟩ := id ht
  have t1 : Looks (model prog w) s.heap (specialOf (.ref t) "__len__") (some (.builtin "tuple.__len__")) := ht.typ.andThen Y.len
  have hb := slot_tuple_len.bind (.ref t)
  refine Calls.call_function_entry kind_len plain_len entry_len (args_len1 _) ?_
  unfold Builtin.«len»
  refine wpAny_bind (m := oneArg "len" _) (wpAny_pure ?_)
  unfold callSpecial?
  refine wpAny_bind (wpAny_bind (t1.here ?_))
  dsimp only
  refine wpAny_holding (wpAny_bind (wpAny_of_eq hb ?_))
  dsimp only
  refine wpAny_bind (call_sub (n := "__len__") (by decide +kernel) (by decide +kernel) (by decide +kernel) entry_tuple_len (ht.inst Y) (args_tuple_len _) ?_)
  show wpAny _ _ (do retInt (← Builtin.Tuple.tupleItemsOf (.ref t)).size) _ _ s
  refine wpAny_bind (wpAny_bind (wpAny_seqItems ho hd (wpAny_pure ?_)))
  refine wpAny_bind (wpAny_mkInt (wpAny_pure ⟨_, rfl, wpAny_pure ?_⟩))
  dsimp only
  refine wpAny_bind (wpAny_holding (wpAny_pure ?_))
  refine wpAny_bind (wpAny_letGo ?_)
  show wpAny _ _ (if ((items.size : Nat) : Int) < 0 then _ else _) _ _ _
  rw [if_neg (by lia)]
  rw [if_neg (by lia)]
  exact wpAny_bind (wpAny_mkInt (wpAny_pure ⟨_, rfl, h⟩))
end
end
section
open PySem PySem.W PySem.Calls PySem.Spec PyProof PyProof.Rows
local macro_rules | `(tactic| walk_at "getMethod type:tuple") => `(tactic| (k_here; refine' method_type ?F ?X ?m (by decide +kernel) ?e ?h ?_; (case F => k_asm); (case X => k_asm); (case m => (first | rfl | kernel_rfl)); (case e => k_dflt k_is); (case h => k_handed)))
local macro_rules | `(tactic| walk_at "call builtin:len") => `(tactic| (refine stop_of ?_))
set_option maxRecDepth 100000 in
set_option maxHeartbeats 4000000 in
theorem t_make (w : World) : PySem.Challenge.rw_ik0097_01 = PySem.Challenge.rw_ik0097_01 → Kx = Kx → ∀ (t : Addr) (a b c : Value),
    PurA w 160 [.ref 206, .ref t] 4 70 (fun h => IsTup h t #[a, b, c]) (NewR a b c) := by
  k_fill
  intro _ _ t a b c
  (k_dflt (refine' purA_intro (by lia) ?k6 ?k7 ?k9 ?kB ?_ ?c2 ?c3 ?c4 ?c5; (case k6 => k_is); (case k7 => k_is); (case k9 => (intro _ Xb; first | exact BindsTo.of_eq rfl | exact binds_K (by k_in) rfl (by k_is) rfl rfl rfl)); (case c5 => decide); (case kB => exact locs rfl); (case c2 => exact rfl); (case c3 => exact rfl); (case c4 => exact rfl)); k_whole; intro dp un gd env outer base mean mg mb s E L' h₁ tk hd hu hP F1 N2 B X T; (try dsimp only); (try k_fold))
  have F2 := fr_as F1 (m' := fun (y : Str) => List.lookup y [("iterable", Value.ref t), ("cls", Value.ref 206)]) (by intro y; kernel_rfl)
  clear F1
  simp only [lk_cons, lk_nil] at F2
  have hY : tupIn (Kx w.params) 206 = true := by kernel_rfl
  have hi : findIn (Kx w.params) (.ref 206) "__init__" = some (some (.builtin "object.__init__")) := by k_dflt k_is
  (repeat' (first | (k_unfold; (try dsimp only)) | walk1 | (dsimp only; walk1) | (leave1; (try dsimp only)) | fail "no step"))
  (rename Fr s.heap L' _ _ => F9)
  (rename News s.heap L' _ _ => N9)
  have X9 := X.keeps F9.keep
  refine hide fun xX9 kX9 => ?_
  obtain ⟨o, ho, hc, n, hdat⟩ := hP
  refine kX9 ?_
  clear kX9 xX9
  refine tuple_new_sub (tup_of X9 hY) (looks_findIn X9 hi) (.inr rfl) (F9.keep _ _ ho) hc hdat (by show (3 : Nat) ≤ 100; decide) ?_
  intro h' dx r hst hlt n1 n2 g1 g2
  have stn : ∀ (q : Addr) (hh : Heap), (∀ b o, s.heap.get? b = some o → hh.get? b = some o) → hh.get? q = none → s.heap.get? q = none := fun q hh hk hq => by
    cases e : s.heap.get? q with
    | none => rfl
    | some o => have := hk _ _ e; rw [hq] at this; cases this
  have hnr := stn _ _ F9.keep n2
  have hnd := stn _ _ F9.keep n1
  have F10 := F9.keeps hst
  have N10 : News s.heap L' h' [(r, matchObj a b c dx), (dx, { cls := .type "dict", data := .dict #[] })] := by
    intro p hp
    have nL : ∀ q, (_ : Heap).get? q = none → q ≠ L' := fun q hq e => by
      refine hide fun xX9 kX9 => ?_
      obtain ⟨oL, _, _, hL, _⟩ := F9.ns
      refine kX9 ?_
      clear kX9 xX9
      rw [e, hL] at hq; cases hq
    rcases List.mem_cons.mp hp with rfl | hp
    · exact ⟨g2, nL _ n2, hnr⟩
    · rw [List.mem_singleton.mp hp]; exact ⟨g1, nL _ n1, hnd⟩
  clear F9 N9
  (repeat' (first | (k_unfold; (try dsimp only)) | walk1 | (dsimp only; walk1) | (leave1; (try dsimp only)) | fail "no step"))
  refine Stop.mk ?_
  (rename Fr s.heap L' _ _ => F11)
  (rename News s.heap L' _ _ => N11)
  have Y := mcls_of w rfl rfl s.heap X
  refine len_M (items := #[a, b, c]) ⟨Y.iter.keeps F11.keep, Y.lt.keeps F11.keep, Y.len.keeps F11.keep, Y.sub.keeps F11.keep⟩ ⟨_, (N11.get (.head _)), rfl, _, rfl⟩ (by show (3 : Nat) < 1000; decide) ?_
  (repeat' (first | (k_unfold; (try dsimp only)) | walk1 | (dsimp only; walk1) | (leave1; (try dsimp only)) | fail "no step"))
  · (rename _ ≠ (3 : Int) => q)
    exact absurd rfl q
  · (rename Fr s.heap L' _ _ => F12)
    (rename News s.heap L' _ _ => N12)
    exact PEnd.intro F12 ⟨r, dx, rfl, hlt, newIn_of N12 fun p hp => hp⟩
end
section
open PySem PySem.W PySem.Calls PySem.Spec PyProof PyProof.Rows
set_option maxRecDepth 100000
set_option linter.unusedSimpArgs false
theorem mp_mro : mroOf (.type "map") = pure [.type "map", .type "object"] := by rw [mroOf_type]; kernel_rfl
theorem mp_new : typeLookup (.type "map") "__new__" = pure (some (.builtin "map.__new__")) := by rw [typeLookup_type, builtinLookup_eq_fast]; kernel_rfl
theorem mp_init : Slot "map" "__init__" "object.__init__" :=
  .of (owner := "object") (n := "__init__") (by rw [typeLookup_type, builtinLookup_eq_fast]; kernel_rfl) (by decide +kernel) (by decide +kernel) (by decide +kernel)
    (by first | exact .inl (by decide +kernel) | exact .inr (by decide +kernel)) (by rw [isSubtype_type]; kernel_rfl)
theorem mp_next : Slot "map" "__next__" "map.__next__" :=
  .of (owner := "map") (n := "__next__") (by rw [typeLookup_type, builtinLookup_eq_fast]; kernel_rfl) (by decide +kernel) (by decide +kernel) (by decide +kernel)
    (by first | exact .inl (by decide +kernel) | exact .inr (by decide +kernel)) (by rw [isSubtype_type]; kernel_rfl)
theorem mp_iter : Slot "map" "__iter__" "map.__iter__" :=
  .of (owner := "map") (n := "__iter__") (by rw [typeLookup_type, builtinLookup_eq_fast]; kernel_rfl) (by decide +kernel) (by decide +kernel) (by decide +kernel)
    (by first | exact .inl (by decide +kernel) | exact .inr (by decide +kernel)) (by rw [isSubtype_type]; kernel_rfl)
theorem mp_called : TypeCalled "map" "map.__new__" "object.__init__" :=
  ⟨by decide +kernel, by decide +kernel, ⟨_, _, mp_mro⟩, madeBy_type mp_mro mp_new (by decide +kernel), by decide +kernel, by rw [isSubtype_type]; kernel_rfl, mp_init⟩
theorem mp_typeCall (a b : Value) : checkTypeCall "map" ⟨[a, b], []⟩ = pure () := by kernel_rfl
theorem mp_newCall (a b : Value) : checkBuiltinCall "map.__new__" ⟨[.type "map", a, b], []⟩ = pure () := by kernel_rfl
theorem mp_entry_new : entryFor table "map.__new__" = some Builtin.«map.__new__» := entryFor_of_tree (by kernel_rfl)
theorem mp_entry_next : entryFor table "map.__next__" = some Builtin.«map.__next__» := entryFor_of_tree (by kernel_rfl)
theorem mp_entry_iter : entryFor table "map.__iter__" = some Builtin.«dict_keyiterator.__iter__» :=
  entryFor_alias (id' := "dict_keyiterator.__iter__") (by kernel_rfl) (by first | rfl | decide +kernel | (unfold String.splitOn; simp +decide [String.splitOnAux])) (by decide +kernel) (by kernel_rfl)
theorem mp_owner : Manifest.owners.lookup (String.ofList ['p', 'a', 'm'].reverse) = some Manifest.sig_map := by kernel_rfl
theorem mp_args_next (a : Value) : argsOk "map.__next__" ⟨[a], []⟩ := by
  unfold argsOk; rw [signature?_of (id := "map.__next__") (n := ['_', '_', 't', 'x', 'e', 'n', '_', '_']) (o := ['p', 'a', 'm']) (by kernel_rfl) mp_owner]; kernel_rfl
theorem mp_args_iter (a : Value) : argsOk "map.__iter__" ⟨[a], []⟩ := by
  unfold argsOk; rw [signature?_of (id := "map.__iter__") (n := ['_', '_', 'r', 'e', 't', 'i', '_', '_']) (o := ['p', 'a', 'm']) (by kernel_rfl) mp_owner]; kernel_rfl
theorem mp_no_len : typeLookup (.type "map") "__len__" = pure none := by rw [typeLookup_type, builtinLookup_eq_fast]; kernel_rfl
theorem mp_no_hint : typeLookup (.type "map") "__length_hint__" = pure none := by rw [typeLookup_type, builtinLookup_eq_fast]; kernel_rfl
theorem mp_sub : isSubtype (.type "map") (.type "map") = pure true := by rw [isSubtype_type]; kernel_rfl
abbrev mapObj (IT : Addr) (f : Value) : Obj := { cls := .type "map", data := .fields #[.ref IT, f] }
abbrev liObj (l : Addr) (i : Nat) : Obj := { cls := .type "list_iterator", data := .fields #[.ref l, .int (i : Nat) 0] }
section
variable {prog : Program} {w : World} {A : Around} {E : Value → Shared → Prop} {s : Shared}
theorem mp_meets (f : Value) (l : Addr) : MeetsIn prog w (Builtin.«map.__new__» ⟨[.type "map", f, .ref l], []⟩) (fun _ R s => (∃ its, s.heap.IsList l its) ∧
    R (.ok (.ret (.ref (s.heap.objs.size + 1 + 1)))) { s with heap := ((s.heap.push (liObj l 0)).push { cls := .type "tuple", data := .seq #[.ref s.heap.objs.size] }).push (mapObj (s.heap.objs.size + 1) f) }) :=
  .of_wp fun A R s h => by
    obtain ⟨⟨its, hl⟩, h⟩ := h
    have hsub := mp_sub
    obtain ⟨hp, g, d, tk, os⟩ := s
    have hp1 : Heap.IsList (hp.push (liObj l 0)) l its := hl.push _
    wp_walk using wpAny_pyIter_list hl
    refine ⟨_, rfl, ?_⟩
    simp only [Heap.size_push]
    exact h
theorem map_K {h₀ : Heap} {L l : Addr} {m : Str → Option Value} {news : List (Addr × Obj)} {vs : List Value} {k : Nat} {f : Value} {Q : Value → Shared → Prop} (F : Fr h₀ L s.heap m) (N : News h₀ L s.heap news) (hm : (l, W.listOf vs.toArray k) ∈ news)
    (h : ∀ it IT I h', Fr h₀ L h' m → News h₀ L h' ((it, liObj l 0) :: (IT, { cls := .type "tuple", data := .seq #[.ref it] }) :: (I, mapObj IT f) :: news) → (∀ p ∈ news, p.1 < it) → it < IT → IT < I → Q (.ref I) { s with heap := h' }) :
    wpAny (model prog w) A (call (.type "map") [f, .ref l]) Q E s := by
  refine callType_newIn mp_called (by decide) (mp_typeCall _ _) (mp_newCall _ _) (fun obj => PySem.F.args_object_init_3 obj _ _) mp_entry_new (mp_meets f l) ⟨⟨vs.toArray, ⟨_, N.get hm, rfl, _, rfl⟩⟩, ⟨_, Heap.get?_push_at (by simp only [Heap.size_push]) rfl, rfl⟩, ?_⟩
  have F1 := F.push (liObj l 0)
  have N1 := N.push F (liObj l 0)
  have F2 := F1.push { cls := .type "tuple", data := .seq #[.ref s.heap.objs.size] }
  have N2 := N1.push F1 { cls := .type "tuple", data := .seq #[.ref s.heap.objs.size] }
  have F3 := F2.push (mapObj (s.heap.objs.size + 1) f)
  have N3 := N2.push F2 (mapObj (s.heap.objs.size + 1) f)
  simp only [Heap.size_push] at N3
  refine h _ (s.heap.objs.size + 1) (s.heap.objs.size + 1 + 1) _ F3 (news_sub N3 ?_) (fun p hp => Heap.lt_size (N p hp).1) (Nat.lt_succ_self _) (Nat.lt_succ_self _)
  intro p hp
  rcases List.mem_cons.mp hp with rfl | hp
  · exact .tail _ (.tail _ (.head _))
  rcases List.mem_cons.mp hp with rfl | hp
  · exact .tail _ (.head _)
  rcases List.mem_cons.mp hp with rfl | hp
  · exact .head _
  · exact .tail _ (.tail _ (.tail _ hp))
end
end
section
open PySem PySem.W PySem.Calls PySem.Spec PyProof PyProof.Rows
set_option maxRecDepth 100000
set_option linter.unusedSimpArgs false
theorem Site.in1 {w : World} {A : Around} {h₀ : Heap} {L : Addr} {h : Heap} {m : Str → Option Value} (S : Site w A h₀ L h m) : Site w A.in1 h₀ L h m := ⟨S.hh, S.fr, S.at'⟩
theorem Site.to {w : World} {A : Around} {h₀ : Heap} {L : Addr} {h h' : Heap} {m : Str → Option Value} (S : Site w A h₀ L h m) (F : Fr h₀ L h' m) : Site w A h₀ L h' m := ⟨S.hh, F, S.at'⟩
abbrev emptyD : Obj := { cls := .type "dict", data := .dict #[] }
noncomputable def DxIn (led : List (Addr × Obj)) : Prop := ∀ p ∈ led, ∀ dx, p.2.dict = some dx → (dx, emptyD) ∈ led
noncomputable def IsLi (o : Obj) (l : Addr) (i : Nat) : Prop := o.cls = .type "list_iterator" ∧ o.data = .fields #[.ref l, .int (i : Nat) 0]
abbrev tupV (a b c : Value) : Obj := { cls := .type "tuple", data := .seq #[a, b, c] }
section
variable {w : World} {A : Around} {E : Value → Shared → Prop} {s : Shared} {h₀ : Heap} {L : Addr} {m : Str → Option Value} {rest : List (Addr × Obj)} {it IT I bm l t : Addr} {i k : Nat} {vs : List Value} {a b c : Value} {oi : Obj}
set_option maxHeartbeats 2000000 in
theorem mnext_item {Q : Option Value → Shared → Prop} (hmake : ∀ (t : Addr) (a b c : Value), PurA w 160 [.ref 206, .ref t] 4 70 (fun h => IsTup h t #[a, b, c]) (NewR a b c)) (S : Site w A h₀ L s.heap m) (hd : A.depth + 4 < recursionLimit) (hu : A.units + 100 < cLine)
    (F : Fr h₀ L s.heap m) (N : News h₀ L s.heap ((it, oi) :: rest)) (hoi : IsLi oi l i) (hI : (I, mapObj IT (.ref bm)) ∈ rest) (hIT : (IT, ({ cls := .type "tuple", data := .seq #[.ref it] } : Obj)) ∈ rest) (hb : (bm, methodObj (.ref 160) (.ref 206)) ∈ rest)
    (hl : (l, W.listOf vs.toArray k) ∈ rest) (hv : vs[i]? = some (.ref t)) (ht : (t, tupV a b c) ∈ rest) (hne : ∀ p ∈ rest, p.1 ≠ it)
    (h : ∀ r dx oi' h' tk, Fr h₀ L h' m → News h₀ L h' ((it, oi') :: (r, matchObj a b c dx) :: (dx, emptyD) :: rest) → IsLi oi' l (i + 1) → (∀ p ∈ (it, oi) :: rest, p.1 ≠ r ∧ p.1 ≠ dx) → Q (some (.ref r)) { s with heap := h', toks := tk }) :
    wpAny (model pw w) A (pyNext (.ref I)) Q E s := by
  have oI := N.get (.tail _ hI)
  have oIT := N.get (.tail _ hIT)
  have ol := N.get (.tail _ hl)
  have oit := N.get (.head _)
  unfold pyNext
  refine wpAny_bind (wpAny_attempt (wpAny_callSpecial?_slot (name := Str.ofString "__next__") ⟨_, oI, rfl⟩ mp_next (wpAny_call_entry mp_next ⟨_, oI, rfl⟩ mp_entry_next ?_ (mp_args_next _))))
  show wpAny _ _ (field (.ref I) 0 >>= _) _ _ s
  refine wpAny_bind (wpAny_field oI rfl (x := .ref IT) rfl ?_)
  refine wpAny_bind (wpAny_seqItems oIT rfl ?_)
  simp only [List.forIn_toArray, List.forIn_cons, List.forIn_nil]
  refine wpAny_bind (wpAny_bind (wpAny_bind (wpAny_holding (wpAny_nextOf_list_item (i := i) (l := l) ⟨_, oit, hoi.1, hoi.2⟩ ⟨_, ol, rfl, _, rfl⟩ (by simpa using hv) fun h1 hit1 hs1 => ?_))))
  refine wpAny_pure ?_
  obtain ⟨oi', oit1, hc1, hd1⟩ := hit1
  have nit := N _ (.head _)
  have F1 := kas_fr F hs1 nit.2.1 nit.2.2
  have N1 : News h₀ L h1 ((it, oi') :: rest) := by
    intro p hp
    rcases List.mem_cons.mp hp with rfl | hp
    · exact ⟨oit1, nit.2⟩
    · have := N p (.tail _ hp)
      exact ⟨(hs1.2 _ (hne p hp)).trans this.1, this.2⟩
  dsimp only
  refine wpAny_pure ?_
  refine wpAny_bind (wpAny_field (N1.get (.tail _ hI)) rfl (x := .ref bm) rfl ?_)
  refine wpAny_bind (wpAny_holding (wpAny_call (method_call (f := .ref 160) (self := .ref 206) (N1.get (.tail _ hb)) ?_)))
  refine hmake t a b c A.in1 h₀ L m _ _ (S.in1.to F1) hd (by show A.units + 1 + 70 < cLine; lia) ⟨_, N1.get (.tail _ ht), rfl, _, rfl⟩ ?_
  rintro _ h2 tk2 hs2 ⟨r, dx, rfl, hlt, hn2⟩
  have F2 := F1.keeps hs2
  have N2 := news_stay N1 hs2
  have hr := hn2 _ (.head _)
  have hx := hn2 _ (.tail _ (.head _))
  have N3 := news_add F1 (news_add F1 N2 hx.1 hx.2) hr.1 hr.2
  have hner : ∀ p ∈ (it, oi') :: rest, p.1 ≠ r ∧ p.1 ≠ dx := fun p hp => ⟨news_off N1 hr.1 p hp, news_off N1 hx.1 p hp⟩
  refine wpAny_bind (wpAny_letGo (wpAny_pure ⟨_, rfl, wpAny_pure ?_⟩))
  refine h r dx oi' h2 tk2 F2 (news_sub N3 ?_) ⟨hc1, hd1⟩ ?_
  · intro p hp
    rcases List.mem_cons.mp hp with rfl | hp
    · exact .tail _ (.tail _ (.head _))
    rcases List.mem_cons.mp hp with rfl | hp
    · exact .head _
    rcases List.mem_cons.mp hp with rfl | hp
    · exact .tail _ (.head _)
    · exact .tail _ (.tail _ (.tail _ hp))
  · intro p hp
    rcases List.mem_cons.mp hp with rfl | hp
    · exact hner (it, oi') (.head _)
    · exact hner p (.tail _ hp)
set_option maxHeartbeats 2000000 in
theorem mnext_end {Q : Option Value → Shared → Prop} (hh : A.handled = none) (N : News h₀ L s.heap ((it, oi) :: rest)) (hoi : IsLi oi l i) (hI : (I, mapObj IT (.ref bm)) ∈ rest) (hIT : (IT, ({ cls := .type "tuple", data := .seq #[.ref it] } : Obj)) ∈ rest)
    (hl : (l, W.listOf vs.toArray k) ∈ rest) (hv : vs[i]? = none) (h : ∀ h', Heap.ExtBut it s.heap h' → Q none { s with heap := h' }) :
    wpAny (model pw w) A (pyNext (.ref I)) Q E s := by
  have oI := N.get (.tail _ hI)
  have oIT := N.get (.tail _ hIT)
  have ol := N.get (.tail _ hl)
  have oit := N.get (.head _)
  unfold pyNext
  refine wpAny_bind (wpAny_attempt (wpAny_callSpecial?_slot (name := Str.ofString "__next__") ⟨_, oI, rfl⟩ mp_next (wpAny_call_entry mp_next ⟨_, oI, rfl⟩ mp_entry_next ?_ (mp_args_next _))))
  show wpAny _ _ (field (.ref I) 0 >>= _) _ _ s
  refine wpAny_bind (wpAny_field oI rfl (x := .ref IT) rfl ?_)
  refine wpAny_bind (wpAny_seqItems oIT rfl ?_)
  simp only [List.forIn_toArray, List.forIn_cons, List.forIn_nil]
  refine wpAny_bind (wpAny_bind (wpAny_bind (wpAny_holding (wpAny_nextOf_list_end (i := i) (l := l) (by exact hh) ⟨_, oit, hoi.1, hoi.2⟩ ⟨_, ol, rfl, _, rfl⟩ (by simpa using hv) fun h1 e hs1 he => ?_))))
  refine wpAny_bind (wpAny_isInstance (T := "StopIteration") (b := true) he isSubtype_stop ?_)
  exact wpAny_pure (h _ hs1)
theorem TupsIn.get {led : List (Addr × Obj)} : ∀ {vs : List Value} {bl : List (Nat × Nat × Nat)} (_ : TupsIn led vs bl) {i : Nat}, i < bl.length → ∃ b a x y z, bl[i]? = some b ∧ vs[i]? = some (.ref a) ∧ (a, tup3 b x y z) ∈ led
  | [], [], _, i, h => absurd h (Nat.not_lt_zero _)
  | _ :: _, b :: _, ⟨⟨a, x, y, z, e1, e2⟩, _⟩, 0, _ => by subst e1; exact ⟨b, a, x, y, z, rfl, rfl, e2⟩
  | _ :: _, _ :: _, ⟨_, T⟩, i + 1, h => by
    simp only [List.getElem?_cons_succ]
    exact TupsIn.get T (by simpa using h)
  | [], _ :: _, T, _, _ => T.elim
  | _ :: _, [], T, _, _ => T.elim
set_option maxHeartbeats 2000000 in
theorem mloop {SL : Addr} {bl : List (Nat × Nat × Nat)} (hmake : ∀ (t : Addr) (a b c : Value), PurA w 160 [.ref 206, .ref t] 4 70 (fun h => IsTup h t #[a, b, c]) (NewR a b c)) (hd : A.depth + 4 < recursionLimit) (hu : A.units + 102 < cLine)
    (hI : (I, mapObj IT (.ref bm)) ∈ rest) (hIT : (IT, ({ cls := .type "tuple", data := .seq #[.ref it] } : Obj)) ∈ rest) (hb : (bm, methodObj (.ref 160) (.ref 206)) ∈ rest) (hl : (l, W.listOf vs.toArray k) ∈ rest) (hT : TupsIn rest vs bl) (hsz : bl.length ≤ 100) :
    ∀ (n i : Nat) (s : Shared) (acc : List Value) (c0 : Nat) (oi : Obj) (made : List (Addr × Obj)) (R : Result → Shared → Prop), i + n = bl.length → Site w A h₀ L s.heap m → Fr h₀ L s.heap m → News h₀ L s.heap ((SL, W.listOf acc.toArray c0) :: (it, oi) :: (made ++ rest)) → IsLi oi l i →
      (∀ p ∈ (it, oi) :: (made ++ rest), p.1 ≠ SL) → (∀ p ∈ made ++ rest, p.1 ≠ it) → MatsIn made acc (bl.take i) → ((∀ p ∈ made, p.2.cls = .ref 206 ∨ p.2 = emptyD) ∧ DxIn made) →
      (∀ h' tk made' acc' c', Fr h₀ L h' m → News h₀ L h' ((SL, W.listOf acc'.toArray c') :: (made' ++ rest)) → (∀ p ∈ made' ++ rest, p.1 ≠ SL) → MatsIn made' acc' bl → ((∀ p ∈ made', p.2.cls = .ref 206 ∨ p.2 = emptyD) ∧ DxIn made') → R (.ok (.ret .none)) { s with heap := h', toks := tk }) →
      codeAny (model pw w) A (.builtin "list.extend.loop" ⟨[.ref SL, .ref I, .none], []⟩) R s := by
  intro n
  induction n with
  | zero =>
    intro i s acc c0 oi made R hn hS F N hoi hne1 hne2 hM hcl hR
    obtain rfl : i = bl.length := by lia
    refine codeAny_builtin PySem.F.entry_extend_loop ?_
    rw [Around.under_plainId PySem.F.plain_extend_loop _]
    show wpAny _ A.in1 (pyNext (.ref I) >>= _) _ _ s
    have N2 : News h₀ L s.heap ((it, oi) :: (made ++ rest)) := fun p hp => N p (.tail _ hp)
    refine wpAny_bind (mnext_end (rest := made ++ rest) hS.hh N2 hoi (List.mem_append_right _ hI) (List.mem_append_right _ hIT) (List.mem_append_right _ hl) (List.getElem?_eq_none (by rw [hT.length]; exact Nat.le_refl _)) fun h' he => ?_)
    rw [List.take_length] at hM
    have nit := N2 _ (.head _)
    have F' : Fr h₀ L h' m := by
      obtain ⟨oL, es, ep, hL, hLd, hLk, hLf⟩ := F.ns
      exact ⟨⟨oL, es, ep, he _ _ nit.2.1.symm hL, hLd, hLk, hLf⟩, fun b o e => he b o (fun q => by rw [q, nit.2.2] at e; cases e) (F.keep b o e), F.above⟩
    refine wpAny_pure (hR h' s.toks made acc c0 F' ?_ (fun p hp => hne1 p (.tail _ hp)) hM hcl)
    intro p hp
    rcases List.mem_cons.mp hp with rfl | hp
    · have := N _ (.head _)
      exact ⟨he _ _ (hne1 _ (.head _)).symm this.1, this.2⟩
    · have := N2 p (.tail _ hp)
      exact ⟨he _ _ (hne2 p hp) this.1, this.2⟩
  | succ n ih =>
    intro i s acc c0 oi made R hn hS F N hoi hne1 hne2 hM hcl hR
    obtain ⟨b, t, x, y, z, hbi, hvi, hti⟩ := hT.get (i := i) (by lia)
    refine codeAny_builtin PySem.F.entry_extend_loop ?_
    rw [Around.under_plainId PySem.F.plain_extend_loop _]
    show wpAny _ A.in1 (pyNext (.ref I) >>= _) _ _ s
    have N2 : News h₀ L s.heap ((it, oi) :: (made ++ (SL, W.listOf acc.toArray c0) :: rest)) := by
      intro p hp
      rcases List.mem_cons.mp hp with rfl | hp
      · exact N _ (.tail _ (.head _))
      rcases List.mem_append.mp hp with hp | hp
      · exact N p (.tail _ (.tail _ (List.mem_append_left _ hp)))
      rcases List.mem_cons.mp hp with rfl | hp
      · exact N _ (.head _)
      · exact N p (.tail _ (.tail _ (List.mem_append_right _ hp)))
    refine wpAny_bind (mnext_item (rest := made ++ (SL, W.listOf acc.toArray c0) :: rest) hmake hS.in1 hd (by show A.units + 1 + 100 < cLine; lia) F N2 hoi (List.mem_append_right _ (.tail _ hI)) (List.mem_append_right _ (.tail _ hIT)) (List.mem_append_right _ (.tail _ hb)) (List.mem_append_right _ (.tail _ hl)) hvi (List.mem_append_right _ (.tail _ hti)) ?_ ?_)
    · intro p hp
      rcases List.mem_append.mp hp with hp | hp
      · exact hne2 p (List.mem_append_left _ hp)
      rcases List.mem_cons.mp hp with rfl | hp
      · exact (hne1 _ (.head _)).symm
      · exact hne2 p (List.mem_append_right _ hp)
    · intro r dx oi' h1 tk1 F1 N1 hoi1 hner
      have nS := N1 _ (.tail _ (.tail _ (.tail _ (List.mem_append_right _ (.head _)))))
      have hrS : r ≠ SL := fun e => (hner _ (.tail _ (List.mem_append_right _ (.head _)))).1 e.symm
      have hrit : r ≠ it := fun e => (hner _ (.head _)).1 e.symm
      have hxS : dx ≠ SL := fun e => (hner _ (.tail _ (List.mem_append_right _ (.head _)))).2 e.symm
      have hxit : dx ≠ it := fun e => (hner _ (.head _)).2 e.symm
      show wpAny _ A.in1 (updateSeq SL (·.push (.ref r)) >>= _) _ _ _
      refine wpAny_bind ?_
      have hs : Heap.SameBut SL h1 (h1.update SL (Obj.mapSeq fun x => x.push (.ref r))) := Heap.SameBut.update ..
      have ho' : (h1.update SL (Obj.mapSeq fun x => x.push (.ref r))).get? SL = some (W.listOf (acc ++ [Value.ref r]).toArray (c0 + 1)) := by
        have e := Heap.get?_update_self (Obj.mapSeq fun x => x.push (.ref r)) nS.1 rfl
        have e2 : Obj.mapSeq (fun x => x.push (.ref r)) (W.listOf acc.toArray c0) = W.listOf (acc ++ [Value.ref r]).toArray (c0 + 1) := by simp [Obj.mapSeq]
        rw [← e2]; exact e
      have hlen : acc.length ≤ 100 := by rw [hM.length, List.length_take]; lia
      refine wpAny_updateSeq nS.1 rfl (wpAny_pure ⟨plainId_quiet PySem.F.plain_extend_loop _, ih (i + 1) _ (acc ++ [Value.ref r]) (c0 + 1) oi' ((r, matchObj (.int (b.1 : Nat) x) (.int (b.2.1 : Nat) y) (.int (b.2.2 : Nat) z) dx) :: (dx, emptyD) :: made) R (by lia) (hS.to (kas_fr F1 hs nS.2.1 nS.2.2)) (kas_fr F1 hs nS.2.1 nS.2.2) ?_ hoi1 ?_ ?_ ?_ ?_ ?_⟩) ?_ ?_
      · intro p hp
        rcases List.mem_cons.mp hp with rfl | hp
        · exact ⟨ho', nS.2⟩
        rcases List.mem_cons.mp hp with rfl | hp
        · have := N1 _ (.head _)
          exact ⟨(hs.2 _ (hne1 (it, oi) (.head _))).trans this.1, this.2⟩
        rcases List.mem_append.mp hp with hp | hp
        · rcases List.mem_cons.mp hp with rfl | hp
          · have := N1 _ (.tail _ (.head _))
            exact ⟨(hs.2 _ hrS).trans this.1, this.2⟩
          rcases List.mem_cons.mp hp with rfl | hp
          · have := N1 _ (.tail _ (.tail _ (.head _)))
            exact ⟨(hs.2 _ hxS).trans this.1, this.2⟩
          · have := N1 p (.tail _ (.tail _ (.tail _ (List.mem_append_left _ hp))))
            exact ⟨(hs.2 _ (hne1 p (.tail _ (List.mem_append_left _ hp)))).trans this.1, this.2⟩
        · have := N1 p (.tail _ (.tail _ (.tail _ (List.mem_append_right _ (.tail _ hp)))))
          exact ⟨(hs.2 _ (hne1 p (.tail _ (List.mem_append_right _ hp)))).trans this.1, this.2⟩
      · intro p hp
        rcases List.mem_cons.mp hp with rfl | hp
        · exact hne1 (it, oi) (.head _)
        rcases List.mem_append.mp hp with hp | hp
        · rcases List.mem_cons.mp hp with rfl | hp
          · exact hrS
          rcases List.mem_cons.mp hp with rfl | hp
          · exact hxS
          · exact hne1 p (.tail _ (List.mem_append_left _ hp))
        · exact hne1 p (.tail _ (List.mem_append_right _ hp))
      · intro p hp
        rcases List.mem_append.mp hp with hp | hp
        · rcases List.mem_cons.mp hp with rfl | hp
          · exact hrit
          rcases List.mem_cons.mp hp with rfl | hp
          · exact hxit
          · exact hne2 p (List.mem_append_left _ hp)
        · exact hne2 p (List.mem_append_right _ hp)
      · rw [List.take_add_one, hbi]
        exact (hM.more fun p hp => .tail _ (.tail _ hp)).append ⟨⟨r, x, y, z, dx, rfl, .head _⟩, trivial⟩
      · refine ⟨fun p hp => ?_, fun p hp dx' hd => ?_⟩
        · rcases List.mem_cons.mp hp with rfl | hp
          · exact .inl rfl
          rcases List.mem_cons.mp hp with rfl | hp
          · exact .inr rfl
          · exact hcl.1 p hp
        · rcases List.mem_cons.mp hp with rfl | hp
          · cases hd; exact .tail _ (.head _)
          rcases List.mem_cons.mp hp with rfl | hp
          · cases hd
          · exact .tail _ (.tail _ (hcl.2 p hp dx' hd))
      · intro h' tk made' acc' c' F' N' hne' hM' hcl'
        exact hR h' tk made' acc' c' F' N' hne' hM' hcl'
      · rw [sizeLine_eq]; simp; lia
      · rw [sizeLine_eq]; simp; lia
set_option maxHeartbeats 2000000 in
theorem list_map_K {bl : List (Nat × Nat × Nat)} {Q : Value → Shared → Prop} (hmake : ∀ (t : Addr) (a b c : Value), PurA w 160 [.ref 206, .ref t] 4 70 (fun h => IsTup h t #[a, b, c]) (NewR a b c)) (hd : A.depth + 4 < recursionLimit) (hu : A.units + 110 < cLine)
    (S : Site w A h₀ L s.heap m) (F : Fr h₀ L s.heap m) (N : News h₀ L s.heap ((it, liObj l 0) :: rest)) (hI : (I, mapObj IT (.ref bm)) ∈ rest) (hIT : (IT, ({ cls := .type "tuple", data := .seq #[.ref it] } : Obj)) ∈ rest) (hb : (bm, methodObj (.ref 160) (.ref 206)) ∈ rest) (hl : (l, W.listOf vs.toArray k) ∈ rest)
    (hne : ∀ p ∈ rest, p.1 ≠ it) (hT : TupsIn rest vs bl) (hsz : bl.length ≤ 100)
    (hQ : ∀ r h' tk made acc c, Fr h₀ L h' m → News h₀ L h' ((r, W.listOf acc.toArray c) :: (made ++ rest)) → (∀ p ∈ made ++ rest, p.1 ≠ r) → MatsIn made acc bl → ((∀ p ∈ made, p.2.cls = .ref 206 ∨ p.2 = emptyD) ∧ DxIn made) → Q (.ref r) { s with heap := h', toks := tk }) :
    wpAny (model pw w) A (call (.type "list") [.ref I]) Q E s := by
  refine callType_codes (Q₁ := fun obj s₁ => obj = .ref s.heap.objs.size ∧ s₁ = { s with heap := s.heap.push { cls := .type "list", data := .seq #[] } }) PySem.F.called_list (PySem.F.typeCall_list_1 _) PySem.F.entry_list_init
    (code_list_new _ ⟨rfl, rfl⟩) fun obj s₁ h₁ => ?_
  obtain ⟨rfl, rfl⟩ := h₁
  have hS : (s.heap.push { cls := .type "list", data := .seq #[] }).get? s.heap.objs.size = some { cls := .type "list", data := .seq #[] } := Heap.get?_push_size _ rfl
  refine ⟨⟨_, hS, rfl⟩, PySem.F.args_list_init_2 _ _, ?_⟩
  have F1 := F.push (W.listOf #[] 0)
  have N1 := N.push F (W.listOf #[] 0)
  have hlt : ∀ p ∈ (it, liObj l 0) :: rest, p.1 ≠ s.heap.objs.size := fun p hp => Nat.ne_of_lt (Heap.lt_size (N p hp).1)
  obtain ⟨hp, g, d, tk, os⟩ := s
  dsimp only at F1 N1 hlt hS hQ S ⊢
  clear N F
  generalize hp.push { cls := .type "list", data := .seq #[] } = h1 at F1 N1 hS
  generalize hp.objs.size = SL at N1 hlt hS ⊢
  have upd : ∀ (h : Heap) (c : Nat) (f : Array Value → Array Value), Fr h₀ L h m → News h₀ L h ((SL, W.listOf #[] c) :: (it, liObj l 0) :: rest) → f #[] = #[] → ∃ c', Fr h₀ L (h.update SL (Obj.mapSeq f)) m ∧ News h₀ L (h.update SL (Obj.mapSeq f)) ((SL, W.listOf #[] c') :: (it, liObj l 0) :: rest) := by
    intro h c f F N hf
    have hs : Heap.SameBut SL h (h.update SL (Obj.mapSeq f)) := Heap.SameBut.update ..
    have nS := N _ (.head _)
    obtain ⟨c', hc'⟩ : ∃ c', (h.update SL (Obj.mapSeq f)).get? SL = some (seqObj "list" (f #[]) c') := ⟨_, get?_update_seq nS.1 f⟩
    rw [hf] at hc'
    refine ⟨c', kas_fr F hs nS.2.1 nS.2.2, ?_⟩
    intro p hp
    rcases List.mem_cons.mp hp with rfl | hp
    · exact ⟨hc', nS.2⟩
    · have := N p (.tail _ hp)
      exact ⟨(hs.2 _ (hlt p hp)).trans this.1, this.2⟩
  show wpAny _ A.in1.in1 (do let old ← Builtin.List.listItems (.ref SL); Builtin.List.listUpdate (.ref SL) (fun _ => #[]); letGo old.toList.reverse; Builtin.List.listExtendWith (.ref SL) (.ref I) .none) _ _ _
  refine wpAny_bind ?_
  unfold Builtin.List.listItems
  refine wpAny_bind (wpAny_seqItems hS rfl (wpAny_pure ?_))
  show wpAny _ A.in1.in1 (updateSeq SL (fun _ => #[]) >>= fun _ => letGo (#[] : Array Value).toList.reverse >>= fun _ => Builtin.List.listExtendWith (.ref SL) (.ref I) .none) _ _ _
  refine wpAny_bind (wpAny_updateSeq hS rfl ?_)
  obtain ⟨c2, F2, N2⟩ := upd h1 0 (fun _ => #[]) F1 N1 rfl
  generalize h1.update SL (Obj.mapSeq fun _ => #[]) = h2 at F2 N2 ⊢
  refine wpAny_bind (wpAny_letGo ?_)
  have oI := N2.get (.tail _ (.tail _ hI))
  unfold Builtin.List.listExtendWith
  refine wpAny_bind (wpAny_typeOf (T := "map") ⟨_, oI, rfl⟩ ?_)
  have hSI : SL ≠ I := fun e => hlt _ (.tail _ hI) e.symm
  have q1 : Builtin.List.listSameRef (.ref SL) (.ref I) = false := by simp [Builtin.List.listSameRef, hSI]
  have q2 : (Value.type "map" == Value.type "list") = false := by decide
  have q3 : (Value.type "map" == Value.type "tuple") = false := by decide
  simp only [q1, q2, q3, Bool.or_false, Bool.false_eq_true, if_false]
  refine wpAny_bind (wpAny_pyIter_slot (T := "map") ⟨_, oI, rfl⟩ mp_iter (wpAny_call_entry mp_iter ⟨_, oI, rfl⟩ mp_entry_iter ?_ (mp_args_iter _)))
  show wpAny _ _ (ret (.ref I)) _ _ _
  refine wpAny_pure ⟨_, rfl, "map", _, ⟨_, oI, rfl⟩, mp_next.lookup, ?_⟩
  refine wpAny_bind (wpAny_holding ?_)
  unfold Builtin.List.listLengthHint
  refine wpAny_bind (wpAny_specialOf (T := "map") ⟨_, oI, rfl⟩ mp_no_len ?_)
  show wpAny _ _ (specialOf (Value.ref I) (Str.ofString "__length_hint__") >>= _) _ _ _
  refine wpAny_bind (wpAny_specialOf (T := "map") ⟨_, oI, rfl⟩ mp_no_hint ?_)
  refine wpAny_pure ?_
  show wpAny _ _ (rule "list.extend.makes-room" >>= fun _ => Builtin.List.listTouch (.ref SL) >>= fun _ =>
    again (.builtin "list.extend.loop" ⟨[.ref SL, .ref I, .none], []⟩)) _ _ _
  refine wpAny_bind (wpAny_rule ?_)
  refine wpAny_bind ?_
  show wpAny _ _ (updateSeq SL (·.push .none) >>= fun _ => updateSeq SL (·.pop)) _ _ _
  have nS2 := N2 _ (.head _)
  have hs3 : Heap.SameBut SL h2 ((h2.update SL (Obj.mapSeq (·.push Value.none))).update SL (Obj.mapSeq (·.pop))) := (Heap.SameBut.update ..).trans (Heap.SameBut.update ..)
  refine wpAny_bind (wpAny_updateSeq nS2.1 rfl ?_)
  have hS2 := Heap.get?_update_self (Obj.mapSeq (·.push Value.none)) nS2.1 rfl
  refine wpAny_updateSeq (hz := by seq_fits) hS2 rfl ?_
  have hS3 := Heap.get?_update_self (Obj.mapSeq (·.pop)) hS2 rfl
  have F3 := kas_fr F2 hs3 nS2.2.1 nS2.2.2
  obtain ⟨c3, hc3⟩ : ∃ c3, ((h2.update SL (Obj.mapSeq (·.push Value.none))).update SL (Obj.mapSeq (·.pop))).get? SL = some (W.listOf ([] : List Value).toArray c3) := by
    obtain ⟨e1, g1⟩ : ∃ e1, (h2.update SL (Obj.mapSeq (·.push Value.none))).get? SL = some (seqObj "list" ((#[] : Array Value).push Value.none) e1) := ⟨_, get?_update_seq nS2.1 (·.push Value.none)⟩
    obtain ⟨e2, g2⟩ : ∃ e2, ((h2.update SL (Obj.mapSeq (·.push Value.none))).update SL (Obj.mapSeq (·.pop))).get? SL = some (seqObj "list" (((#[] : Array Value).push Value.none).pop) e2) := ⟨_, get?_update_seq g1 (·.pop)⟩
    exact ⟨e2, g2⟩
  have N3 : News h₀ L ((h2.update SL (Obj.mapSeq (·.push Value.none))).update SL (Obj.mapSeq (·.pop))) ((SL, W.listOf ([] : List Value).toArray c3) :: (it, liObj l 0) :: ([] ++ rest)) := by
    intro p hp
    rcases List.mem_cons.mp hp with rfl | hp
    · exact ⟨hc3, nS2.2⟩
    · have := N2 p (.tail _ hp)
      exact ⟨(hs3.2 _ (hlt p hp)).trans this.1, this.2⟩
  generalize ((h2.update SL (Obj.mapSeq (·.push Value.none))).update SL (Obj.mapSeq (·.pop))) = h3 at F3 N3 ⊢
  refine wpAny_pure ⟨plainId_quiet PySem.F.plain_extend_loop _, ?_⟩
  refine mloop (A := A.in1) (rest := rest) hmake hd (by show A.units + 1 + 102 < cLine; lia) hI hIT hb hl hT hsz bl.length 0 _ [] c3 (liObj l 0) [] _ (Nat.zero_add _) (S.in1.to F3) F3 N3 ⟨rfl, rfl⟩ hlt hne trivial ⟨(fun _ h => nomatch h), (fun _ h => nomatch h)⟩ ?_
  intro h' tk' made acc c' F' N' hne' hM' hcl'
  exact ⟨rfl, hQ SL h' tk' made acc c' F' N' hne' hM' hcl'⟩
end
end
section
open PySem PySem.W PySem.Calls PySem.Spec PyProof PyProof.Rows
section
variable {w : World} {cs : Scope} {C : Cx w cs} {kp : List (Addr × Obj)} {f : SF} {n : SL} {Q : Flow → Shared → Prop} {x : Str} {pos p2 p3 p4 : Pos} {rest : List Stmt} {α : Type} {R : SV → SL → Prop}
theorem g_exact {D : Addr} {P : Obj → Prop} {ss : List Stmt} (h : ∀ o, P o → G C kp f ((D, oEq o) :: n) Q ss) : G C kp f ((D, P) :: n) Q ss := .mk fun hp t S => by
  obtain ⟨nw, N, K⟩ := S.nw
  obtain _ | ⟨q, nw⟩ := nw
  · exact K.elim
  obtain ⟨a, o⟩ := q
  obtain ⟨rfl, hP, K⟩ := K
  exact (h o hP).run hp t ⟨S.fr, ⟨(_, o) :: nw, N, rfl, rfl, K⟩, S.nd, S.off⟩
theorem oLst_vals {vs : List Value} {o : Obj} (h : oLst (vs.map .val) o) : ∃ k, o = PySem.W.listOf vs.toArray k := by
  obtain ⟨us, k, ha, e⟩ := h
  have : us = vs := by
    clear e
    induction vs generalizing us with
    | nil => cases us with | nil => rfl | cons _ _ => exact ha.elim
    | cons v vs ih => cases us with | nil => exact ha.elim | cons u us => rw [ha.1, ih us ha.2]
  exact ⟨k, this ▸ e⟩
theorem AllIs.app : ∀ {as : List SV} {vs : List Value} {bs : List SV} {us : List Value}, AllIs as vs → AllIs bs us → AllIs (as ++ bs) (vs ++ us)
  | [], [], _, _, _, h => h
  | _ :: _, _ :: _, _, _, h, h' => ⟨h.1, AllIs.app h.2 h'⟩
  | [], _ :: _, _, _, h, _ => h.elim
  | _ :: _, [], _, _, h, _ => h.elim
inductive UnappI (as : List SV) (a : SV) (vs : List Value) : Prop
  | mk (us : List Value) (v : Value) (e : vs = us ++ [v]) (h : AllIs as us) (ha : a.Is v)
theorem AllIs.unapp : ∀ {as : List SV} {vs : List Value} {a : SV}, AllIs (as ++ [a]) vs → UnappI as a vs
  | [], [], _, h => h.elim
  | [], [v], _, h => ⟨[], v, rfl, trivial, h.1⟩
  | [], _ :: _ :: _, _, h => h.2.elim
  | _ :: _, [], _, h => h.elim
  | b :: as, v :: vs, a, h => by
    obtain ⟨us, u, rfl, h1, h2⟩ := AllIs.unapp (as := as) h.2
    exact ⟨v :: us, u, rfl, ⟨h.1, h1⟩, h2⟩
theorem small_list {k : Nat} (h : k ≤ big) : k ≤ sizeLine := by rw [sizeLine_eq]; unfold big at h; omega
inductive AppE (C : Cx w cs) (kp : List (Addr × Obj)) (f : SF) (D : Addr) (Q : Flow → Shared → Prop) (rest : List Stmt) (a : SV) (n : SL) : Prop
  | mk (i : Nat) (as : List SV) (hm : n[i]? = some (D, oLst as)) (hl : as.length ≤ big) (k : G C kp f (n.set i (D, oLst (as ++ [a]))) Q rest)
theorem g_append {y : Str} {D : Addr} {e : Expr} {as0 : List SV} (hy : lkS y f = some (.val (.ref D))) (hm0 : (D, oLst as0) ∈ n) (d : EvX C kp f n e (AppE C kp f D Q rest))
    (hloc : autoParam (isLoc cs y = true) tR) (hs : autoParam (isStar e = false) tR) (hi : autoParam (interactive C.env = false) tR)
    (he : ∃ pl, eval (.Call (.Attribute (.Name y p2) "append" p3) [e] [] p4) C.env = (do
         let ov ← eval (.Name y p2) C.env
         standAt p3.atName
         let (f, first) ← holding [ov] (getMethod ov "append" pl)
         callWith p4 f first (backTo p4 (starEach [e] C.env)) []) := by exact ⟨_, rfl⟩) : G C kp f n Q (.Expr (.Call (.Attribute (.Name y p2) "append" p3) [e] [] p4) pos :: rest) := .mk fun h t S =>
  wpAny_execs_cons (wpAny_Expr (MethodCall_ (ev_name hy hloc _ _ _ S fun _ h1 t1 e0 S1 => by
    cases e0
    obtain ⟨m, news, F, _, N, at', _, _⟩ := S1.use
    obtain ⟨o, h2, us, k, _, rfl⟩ := at' _ _ hm0
    refine listMethod_K (s := C.at h1 t1) N h2 PySem.F.slot_list_append PySem.F.type_list_append ?_
    refine callWith_method1 (args_cons (d _ _ _ S1 fun v a n' h5 t5 hr ha S5 => args_nil ?_) (star_not hs)) (star_not hs) rfl
    obtain ⟨i, as, hi', hlen, g⟩ := hr
    obtain ⟨m, news, o, g', F, _, N, hP, hmem, _, U, close⟩ := S5.open hi'
    obtain ⟨us, k, has, rfl⟩ := hP
    exact append_K (s := C.at h5 t5) F N (U _) (fun h6 F6 N6 => g.run h6 t5 (close _ _ h6 ⟨us ++ [v], k + 1, has.app ⟨ha, trivial⟩, by simp⟩ F6 N6)) (by rw [List.size_toArray, has.length]; exact small_list hlen)) he.choose_spec) hi rfl)
theorem EvX.pop {y : Str} {D : Addr} {as : List SV} {a : SV} {i : Nat} (hy : lkS y f = some (.val (.ref D))) (hm : n[i]? = some (D, oLst (as ++ [a]))) (hlen : as.length < big) (k : R a (n.set i (D, oLst as))) (hloc : autoParam (isLoc cs y = true) tR)
    (he : ∃ pl, eval (.Call (.Attribute (.Name y p2) "pop" p3) [] [] pos) C.env = (do
         let ov ← eval (.Name y p2) C.env
         standAt p3.atName
         let (f, first) ← holding [ov] (getMethod ov "pop" pl)
         callWith pos f first (backTo pos (starEach [] C.env)) []) := by exact ⟨_, rfl⟩) : EvX C kp f n (.Call (.Attribute (.Name y p2) "pop" p3) [] [] pos) R := fun _ _ _ S q =>
  MethodCall_ (ev_name hy hloc _ _ _ S fun _ h1 t1 e0 S1 => by
    cases e0
    obtain ⟨m, news, o, g', F, _, N, hP, hmem, _, U, close⟩ := S1.open hm
    obtain ⟨us, j, has, rfl⟩ := hP
    obtain ⟨us, u, rfl, h1, h2⟩ := has.unapp
    refine kl_method (s := C.at _ t1) N hmem PySem.F.slot_list_pop PySem.F.type_list_pop ?_
    refine callWith_method0 ?_
    exact kl_pop (s := C.at _ t1) F N (kl_last_app us u) (U _) (by rw [List.length_append, h1.length]; exact small_list hlen) fun h6 F6 N6 => q _ a _ h6 t1 k h2 (close _ _ h6 ⟨us, j + 1, h1, rfl⟩ F6 N6)) he.choose_spec
theorem tst_list {y : Str} {D : Addr} {as : List SV} (hy : lkS y f = some (.val (.ref D))) (hm : (D, oLst as) ∈ n) (hlen : as.length ≤ big) (hloc : autoParam (isLoc cs y = true) tR) : Tst C kp f n (.Name y pos) (as ≠ []) := fun _ _ _ S q =>
  isTrue_plain (ev_name hy hloc _ _ _ S fun _ h1 t1 e0 S1 => by
    cases e0
    obtain ⟨o, h2, ⟨us, j, has, rfl⟩, _⟩ := S1.at' hm
    refine wpAny_truthy_list (s := C.at h1 t1) ⟨_, h2, rfl, _, rfl⟩ (by rw [List.size_toArray, has.length]; unfold big at hlen; omega) (q _ _ _ ?_ S1)
    cases as with
    | nil => cases us with
      | nil => simp
      | cons _ _ => exact has.elim
    | cons _ _ => cases us with
      | nil => exact has.elim
      | cons _ _ => simp)
end
end
section
open PySem PySem.W PySem.Calls PySem.Spec PyProof PyProof.Rows
section
variable {w : World} {cs : Scope} {C : Cx w cs} {kp : List (Addr × Obj)} {f : SF} {n : SL} {Q : Flow → Shared → Prop} {x : Str} {pos p2 p3 p4 : Pos} {rest : List Stmt} {α : Type} {R : SV → SL → Prop}
def GT (C : Cx w cs) (kp : List (Addr × Obj)) (f : SF) (n : SL) (a : SV) (tg : Expr) (Q : Flow → Shared → Prop) (body : List Stmt) : Prop :=
  ∀ (v : Value) (h : Heap) (t : Nat), a.Is v → C.St kp f n h → wpAny (model pw w) C.A (assign tg C.env v) (fun _ s₃ => wpAny (model pw w) C.A (execs body C.env) Q C.E s₃) C.E (C.at h t)
theorem gt_tup {T : Addr} {P : Obj → Prop} {as : List SV} {xs : List Str} {ts : List Expr} {k : Nat} {tp : Pos} {body : List Stmt} (hm : (T, P) ∈ n) (hP : ∀ o, P o → oTup as o) (g : G C kp ((xs.zip as).reverse ++ f) n Q body) (hn : autoParam (namesOf ts = some xs) tR) (hl : autoParam (xs.all (isLoc cs) = true) tR) (hlen : autoParam (as.length = xs.length) tR) :
    GT C kp f n (.val (.ref T)) (.Tuple ts k tp) Q body := fun v h t ha S => by
  cases ha
  obtain ⟨m, F, R1⟩ := S.fr
  obtain ⟨nw, N, K⟩ := S.nw
  obtain ⟨o, g1, g2, _⟩ := S.at' hm
  obtain ⟨vs, has, rfl⟩ := hP o g2
  refine unpackN_ (s := C.at h t) F N ⟨_, g1, rfl, 0, rfl⟩ C.hh (by rw [(names_len hn).1, ← hlen, ← has.length, List.size_toArray]) (names_len hn).2 fun h2 F2 N2 => ?_
  exact st_order hn hl has hlen (.mk' F2 R1 N2 K S.nd S.off) fun h3 t3 S3 => g.run h3 t3 S3
inductive oMat (as : List SV) (o : Obj) : Prop
  | mk (u v z : Value) (dx : Addr) (ha : AllIs as [u, v, z]) (e : o = matchObj u v z dx)
theorem gt_mat {T : Addr} {P : Obj → Prop} {as : List SV} {xs : List Str} {ts : List Expr} {k : Nat} {tp : Pos} {body : List Stmt} (Y : MCls (model pw w) C.s.heap) (hm : (T, P) ∈ n) (hP : ∀ o, P o → oMat as o) (g : G C kp ((xs.zip as).reverse ++ f) n Q body) (hn : autoParam (namesOf ts = some xs) tR) (hl : autoParam (xs.all (isLoc cs) = true) tR) (hlen : autoParam (as.length = xs.length) tR) :
    GT C kp f n (.val (.ref T)) (.Tuple ts k tp) Q body := fun v h t ha S => by
  cases ha
  obtain ⟨m, F, R1⟩ := S.fr
  obtain ⟨nw, N, K⟩ := S.nw
  obtain ⟨o, g1, g2, _⟩ := S.at' hm
  obtain ⟨u, v, z, dx, has, rfl⟩ := hP o g2
  refine assignM_K (s := C.at h t) (items := #[u, v, z]) F N Y ⟨_, g1, rfl, 0, rfl⟩ C.hh (by rw [(names_len hn).1, ← hlen, ← has.length]; rfl) (names_len hn).2 fun h2 F2 N2 _ => ?_
  exact st_order hn hl has hlen (.mk' F2 R1 N2 K S.nd S.off) fun h3 t3 S3 => g.run h3 t3 S3
theorem g_part {ts : List Expr} {k : Nat} {tp : Pos} {e : Expr} (d : EvX C kp f n e (fun a n' => GT C kp f n' a (.Tuple ts k tp) Q rest))
    (hs : autoParam (swapsWithSole [.Tuple ts k tp] e pos.line C.env = pure false) tR) (hw : autoParam (swappedStores [.Tuple ts k tp] e C.env = pure none) tR) : G C kp f n Q (.Assign [.Tuple ts k tp] e pos :: rest) := .mk fun h t S =>
  wpAny_execs_cons (Assign_Tuple (d _ _ _ S fun v a n1 h1 t1 hr ha S1 => hr v h1 t1 ha S1) hs hw)
def Cx.re (C : Cx w cs) (g : Shared) : Cx w cs := { C with s := { g with heap := C.s.heap }, hP := C.hP, site := C.site }
def NPost (C : Cx w cs) (kp : List (Addr × Obj)) (J : Nat → α → Prop) (fr : Nat → α → SF) (ow : Nat → α → SL) (i : Nat) (fl : Flow) (s' : Shared) : Prop := fl = .next ∧ ∃ h t a, s' = C.at h t ∧ C.St kp (fr i a) (ow i a) h ∧ J i a
theorem g_nnext {J : Nat → α → Prop} {fr : Nat → α → SF} {ow : Nat → α → SL} {i : Nat} {Q' : Flow → Shared → Prop} (hq : ∀ fl s', NPost C kp J fr ow i fl s' → Q' fl s') (a : α) (hp : Pick (ow i a) n) (hj : J i a) (e : ((fr i a).map (·.1)).map (fun k => lkS k (fr i a)) = ((fr i a).map (·.1)).map fun k => lkS k f) :
    G C kp f n Q' [] := .mk fun h t S => wpAny_execs_nil (hq _ _ ⟨rfl, h, t, a, rfl, (S.frame e).pick hp, hj⟩)
theorem loopT_mk {M : World} {A : Around} {h₀ : Heap} {env : Env} {target : Expr} {body : List Stmt} {E : Value → Shared → Prop} {s₂ : Shared} {I : Addr} {fp wr : List Addr} {k : Nat} {P : Nat → Value → Prop} {St : Nat → Heap → Prop} {m : Str → Option Value} {news : List (Addr × Obj)} (J : Nat → (Str → Option Value) → List (Addr × Obj) → Prop)
    (W : Walks pw M A I fp wr k P St) (hLf : env.locals ∉ fp) (hwr : ∀ b ∈ wr, h₀.get? b = none) (hnw : ∀ p ∈ news, p.1 ∉ wr) (hst : St 0 s₂.heap) (F : Fr h₀ env.locals s₂.heap m) (N : News h₀ env.locals s₂.heap news)
    (hgo : ∀ i (s' : Shared) v (Q' : Unit → Shared → Prop), St i s'.heap → Q' () s' → wpAny (model pw M) A (letOwnedTupleGo target (.ref I) v) Q' E s') (hj : J 0 m news)
    (turn : ∀ i v m₁ news₁ (s₁ : Shared) own, i < k → P i v → J i m₁ news₁ → (∀ p ∈ news₁, p.1 ∉ wr) → (∀ p ∈ own, p.1 ∈ fp) → (∀ b ∈ fp, h₀.get? b = none → ∀ o, s₁.heap.get? b = some o → (b, o) ∈ own) → St (i + 1) s₁.heap →
      Fr h₀ env.locals s₁.heap m₁ → News h₀ env.locals s₁.heap (own ++ news₁) →
      wpAny (model pw M) A (assign target env v) (fun _ s₃ => wpAny (model pw M) A (execs body env) (LoopStepU h₀ env.locals wr own (J (i + 1)) s₁) E s₃) E s₁)
    (done : ∀ h' tk m' news', Fr h₀ env.locals h' m' → News h₀ env.locals h' news' → J k m' news' → Q .next { s₂ with heap := h', toks := tk }) : LoopAtT pw M A h₀ env target body Q E (.ref I) s₂ :=
  ⟨I, fp, wr, k, P, St, m, news, J, rfl, W, hLf, hwr, hnw, hst, F, N, hgo, hj, fun i v m₁ news₁ s₁ own hi hP hJ a b _ d st F₁ N₁ => turn i v m₁ news₁ s₁ own hi hP hJ a b d st F₁ N₁, fun h' tk m' news' F N _ hJ => done h' tk m' news' F N hJ⟩
theorem loopT {tg : Expr} {body : List Stmt} {I : Addr} {fp wr : List Addr} {k : Nat} {P : Nat → Value → Prop} {St : Nat → Heap → Prop} {h : Heap} {t : Nat} (J : Nat → α → Prop) (fr : Nat → α → SF) (ow : Nat → α → SL) (V : Nat → SV) (a₀ : α)
    (W : Walks pw w C.A I fp wr k P St) (hLf : C.L ∉ fp) (hwr : ∀ b ∈ wr, C.s.heap.get? b = none) (hfw : ∀ b ∈ fp, b ∈ wr ∨ b ∈ kp.map (·.1) ∨ ∃ o, C.s.heap.get? b = some o)
    (hgo : ∀ i (s' : Shared) v (Q' : Unit → Shared → Prop), St i s'.heap → Q' () s' → wpAny (model pw w) C.A (letOwnedTupleGo tg (.ref I) v) Q' C.E s')
    (hnw : ∀ b ∈ wr, b ∉ (ow 0 a₀).map (·.1) ∧ b ∉ kp.map (·.1)) (hall : ∀ i h, St i h → ∀ b ∈ wr, ∃ o, h.get? b = some o) (hst : St 0 h) (S : C.St kp (fr 0 a₀) (ow 0 a₀) h) (hj : J 0 a₀) (hV : ∀ i v, i < k → P i v → (V i).Is v)
    (turn : ∀ i a own g, i < k → J i a → ∀ Q', (∀ fl s', NPost (C.re g) (own ++ kp) J fr ow (i + 1) fl s' → Q' fl s') → GT (C.re g) (own ++ kp) (fr i a) (ow i a) (V i) tg Q' body)
    (done : ∀ a h t, J k a → C.St kp (fr k a) (ow k a) h → Q .next (C.at h t)) :
    LoopAtT pw w C.A C.s.heap C.env tg body Q C.E (.ref I) (C.at h t) := by
  obtain ⟨m, F, R⟩ := S.fr
  obtain ⟨nw, N, K⟩ := S.nw
  have hk : ∀ p ∈ kp, p.1 ∉ wr := fun p hp hb => (hnw p.1 hb).2 (List.mem_map.mpr ⟨p, hp, rfl⟩)
  refine loopT_mk (fun i => LpI (J i) (fr i) (ow i) kp) W hLf hwr (fun p hp hb => (List.mem_append.mp hp).elim (fun hp => (hnw p.1 hb).1 (K.addrs ▸ List.mem_map.mpr ⟨p, hp, rfl⟩)) fun hp => hk p hp hb) hst F N hgo ⟨a₀, nw, hj, R, rfl, K, S.nd, S.off⟩ ?_ fun h' tk m' news' F' N' hJ => ?_
  · intro i v m₁ news₁ g own hi hP hJ ha hofp hfp hst F N
    refine hide fun X kX => ?_
    obtain ⟨a, nw, hj, R, rfl, K, nd, off⟩ := hJ
    refine kX ?_
    have hown : ∀ b ∈ wr, ∃ o, (b, o) ∈ own := fun b hb => (hall _ _ hst _ hb).elim fun o ho => ⟨o, hfp _ (W.sub _ hb) (hwr _ hb) o ho⟩
    refine wpAny_mono (turn i a own g hi hj (NPost (C.re g) (own ++ kp) J fr ow (i + 1)) (fun _ _ q => q) v g.heap g.toks (hV i v hi hP) (loop_in hfw R K nd off ha hofp F N)) (fun _ s₃ q => wpAny_mono q (fun fl s' q => ?_) fun _ _ e => e) fun _ _ e => e
    obtain ⟨rfl, h', t', b, e, S', hj'⟩ := q
    obtain ⟨m', nw', F', R', N', K', hw⟩ := loop_out S' hk hown
    exact e ▸ LoopStepU.intro (s₁ := g) F' N' hw ⟨b, nw', hj', R', rfl, K', S'.nd, fun p hp => S'.off p (List.mem_append_right _ hp)⟩
  · obtain ⟨a, nw, hj, R, rfl, K, nd, off⟩ := hJ
    exact done a h' tk hj (.mk' F' R N' K nd off)
def OverT (C : Cx w cs) (kp : List (Addr × Obj)) (f : SF) (n : SL) (tg : Expr) (body : List Stmt) (Q : Flow → Shared → Prop) (r : Addr) : Prop :=
  ∀ (h : Heap) (t : Nat), C.St kp f n h → wpAny (model pw w) C.A (pyIter (.ref r)) (fun it s₂ => LoopAtT pw w C.A C.s.heap C.env tg body Q C.E it s₂) C.E (C.at h t)
inductive ForTE (C : Cx w cs) (kp : List (Addr × Obj)) (f : SF) (tg : Expr) (body : List Stmt) (Q : Flow → Shared → Prop) (a : SV) (n : SL) : Prop
  | mk (r : Addr) (e : a = .val (.ref r)) (k : OverT C kp f n tg body Q r)
theorem g_forT {it : Expr} {body : List Stmt} {tg : Expr} (d : EvX C kp f n it (ForTE C kp f tg body (Seq C Q rest))) (hs : ∀ y, foldedSetIterable it C.env y = pure y := by exact fun _ => rfl) :
    G C kp f n Q (.For tg it body [] pos :: rest) := .mk fun h t S =>
  wpAny_execs_cons (For_invT C.s.heap (d _ _ _ S fun v a n' h' t' hr ha S' => by
    obtain ⟨r, rfl, k⟩ := hr
    cases ha
    exact k h' t' S') hs C.hE)
theorem overT_core {tg : Expr} {body : List Stmt} {r : Addr} {as : List SV} {vs : List Value} {h : Heap} {t : Nat} (hls : h.IsList r vs.toArray) (hr : r ∈ kp.map (·.1) ∨ ∃ o, C.s.heap.get? r = some o) (has : AllIs as vs) (J : Nat → α → Prop) (fr : Nat → α → SF) (ow : Nat → α → SL) (a₀ : α) (hj : J 0 a₀)
    (turn : ∀ i b c own g, as[i]? = some c → J i b → ∀ Q', (∀ fl s', NPost (C.re g) (own ++ kp) J fr ow (i + 1) fl s' → Q' fl s') → GT (C.re g) (own ++ kp) (fr i b) (ow i b) c tg Q' body)
    (done : ∀ b h t, J as.length b → C.St kp (fr as.length b) (ow as.length b) h → Q .next (C.at h t)) (S : C.St kp (fr 0 a₀) (ow 0 a₀) h) :
    wpAny (model pw w) C.A (pyIter (.ref r)) (fun it s₂ => LoopAtT pw w C.A C.s.heap C.env tg body Q C.E it s₂) C.E (C.at h t) := by
  obtain ⟨m, F, _⟩ := S.fr
  obtain ⟨ol, hol, _⟩ := id hls
  have hne : r ≠ h.objs.size := Nat.ne_of_lt (Heap.lt_size hol)
  refine wpAny_pyIter_list (s := C.at h t) hls ?_
  have hsz : vs.toArray.size = as.length := by rw [List.size_toArray, has.length]
  refine loopT (Q := Q) J fr ow (fun i => (as[i]?).getD (.val .none)) a₀ (hsz ▸ (Walks.list (prog := pw) (w := w) C.hh h.objs.size r hne vs.toArray)) (fun hm => ?_) (fun b hb => ?_) (fun b hb => ?_) (fun i s' v Q' st hQ' => letGo_listiter st.1 hQ') (fun b hb => ?_) (fun i h st b hb => ?_) ⟨⟨_, Heap.get?_push_size _ (by rfl), rfl, rfl⟩, hls.at fun o e => Heap.get?_push_of_some _ e⟩ (S.push _) hj (fun i v hi hv => ?_) (fun i b own g hi hj => ?_) done
  · rcases List.mem_cons.mp hm with e | hm
    · exact absurd F.ns.lt (e ▸ Nat.lt_irrefl _)
    · have hm := List.mem_singleton.mp hm
      rcases hr with hr | ⟨o, hr⟩
      · obtain ⟨p, hp, e⟩ := List.mem_map.mp hr
        obtain ⟨nw, N, _⟩ := S.nw
        exact (N p (List.mem_append_right _ hp)).2.1 (e.trans hm.symm)
      · exact absurd (Nat.lt_of_lt_of_le (Heap.lt_size hr) F.above) (hm ▸ Nat.lt_irrefl _)
  · rw [List.mem_singleton.mp hb]; exact S.new.2.2.1
  · rcases List.mem_cons.mp hb with e | hm
    · rw [e]; exact .inl (.head _)
    · rw [List.mem_singleton.mp hm]; exact .inr hr
  · rw [List.mem_singleton.mp hb]; exact ⟨S.new.1, S.new.2.1⟩
  · rw [List.mem_singleton.mp hb]; exact (live_iter st).1
  · obtain ⟨a, ha⟩ : ∃ a, as[i]? = some a := ⟨_, List.getElem?_eq_getElem hi⟩
    obtain ⟨u, h1, h2⟩ := has.get ha
    rw [ha]
    have : u = v := by
      have := hv
      simp only [List.getElem?_toArray] at this
      rw [h1] at this
      exact Option.some.inj this
    exact this ▸ h2
  · have ha : as[i]? = some as[i] := List.getElem?_eq_getElem hi
    have := turn i b _ own g ha hj
    rw [show (as[i]?).getD (.val .none) = as[i] by rw [ha]; rfl]
    exact this
theorem overT_base {tg : Expr} {body : List Stmt} {r : Addr} {as : List SV} {vs : List Value} (hl : C.s.heap.IsList r vs.toArray) (has : AllIs as vs) (J : Nat → α → Prop) (fr : Nat → α → SF) (ow : Nat → α → SL) (a₀ : α) (hj : J 0 a₀)
    (turn : ∀ i b c own g, as[i]? = some c → J i b → ∀ Q', (∀ fl s', NPost (C.re g) (own ++ kp) J fr ow (i + 1) fl s' → Q' fl s') → GT (C.re g) (own ++ kp) (fr i b) (ow i b) c tg Q' body)
    (done : ∀ b, J as.length b → G C kp (fr as.length b) (ow as.length b) Q rest) (ef : autoParam (fr 0 a₀ = f) tR) (en : autoParam (ow 0 a₀ = n) tR) : OverT C kp f n tg body (Seq C Q rest) r := fun h t S => by
  subst ef en
  obtain ⟨m, F, _⟩ := S.fr
  obtain ⟨ol, hol, _⟩ := id hl
  exact overT_core (hl.at fun o e => F.keep r o e) (.inr ⟨_, hol⟩) has J fr ow a₀ hj turn (fun b h t hj S => (done b hj).run h t S) S
theorem overT_own {tg : Expr} {body : List Stmt} {r : Addr} {as : List SV} {P : Obj → Prop} (hP : ∀ o, P o → oLst as o) (J : Nat → α → Prop) (fr : Nat → α → SF) (ow : Nat → α → SL) (a₀ : α) (hj : J 0 a₀)
    (turn : ∀ i b c own g, as[i]? = some c → J i b → ∀ Q', (∀ fl s', NPost (C.re g) (own ++ kp) J fr ow (i + 1) fl s' → Q' fl s') → GT (C.re g) (own ++ kp) (fr i b) (ow i b) c tg Q' body)
    (done : ∀ b, J as.length b → G C kp (fr as.length b) ((r, P) :: ow as.length b) Q rest) (ef : autoParam (fr 0 a₀ = f) tR) (en : autoParam ((r, P) :: ow 0 a₀ = n) tR) : OverT C kp f n tg body (Seq C Q rest) r := fun h t S => by
  subst ef en
  obtain ⟨h1, h2, o, ho, hg, S'⟩ := S.freeze
  obtain ⟨vs, k, has, e⟩ := hP o ho
  refine overT_core (kp := (r, o) :: kp) ⟨o, hg, by rw [e]; exact ⟨rfl, k, rfl⟩⟩ (.inl (.head _)) has J fr ow a₀ hj (fun i b c own g hc hj => ?_) (fun b h t hj S => (done b hj).run h t (S.thaw ho h2)) S'
  have := turn i b c (own ++ [(r, o)]) g hc hj
  rw [List.append_assoc] at this
  exact this
theorem OverT.to {tg : Expr} {body : List Stmt} {r : Addr} {Q : Flow → Shared → Prop} (f' : SF) (n' : SL) (hp : Pick n' n) (k : OverT C kp f' n' tg body Q r) (e : (f'.map (·.1)).map (fun k => lkS k f') = (f'.map (·.1)).map fun k => lkS k f) : OverT C kp f n tg body Q r :=
  fun h t S => k h t ((S.frame e).pick hp)
theorem GT.to {a : SV} {tg : Expr} {body : List Stmt} (n' : SL) (hp : Pick n' n) (g : GT C kp f n' a tg Q body) : GT C kp f n a tg Q body := fun v h t ha S => g v h t ha (S.pick hp)
theorem mem_oEqs {led : List (Addr × Obj)} {D : Addr} {o : Obj} (h : (D, o) ∈ led) : (D, oEq o) ∈ oEqs led := List.mem_map.mpr ⟨_, h, rfl⟩
end
end
section
open PySem PySem.W PySem.Calls PySem.Spec PyProof PyProof.Rows
theorem putL_len (a : Str) (k : Int) (u v : Value) : ∀ es : List DictEntry, (putL a k u v es).length ≤ es.length + 1
  | [] => Nat.le_refl _
  | e :: r => by
    unfold putL
    split
    · exact Nat.le_succ _
    · exact Nat.succ_le_succ (putL_len a k u v r)
section
variable {w : World} {cs : Scope} {C : Cx w cs} {kp : List (Addr × Obj)} {f : SF} {n : SL} {Q : Flow → Shared → Prop} {x : Str} {pos p2 p3 p4 : Pos} {rest : List Stmt} {α : Type} {R : SV → SL → Prop}
noncomputable def setIn (p : Params) (c : Addr) (name : Str) : Bool :=
  findIn (Kx p) (.ref c) "__setattr__" == some (some (.builtin "object.__setattr__")) && plainOver (Kx p) c && takerIn (Kx p) c name == some none && hasDictIn (Kx p) c
inductive SetE (C : Cx w cs) (kp : List (Addr × Obj)) (f : SF) (y attr : Str) (Q : Flow → Shared → Prop) (rest : List Stmt) (a : SV) (n : SL) : Prop
  | mk (v : Value) (X c D : Addr) (es : List DictEntry) (k i : Nat) (e : a = .val v) (hy : lkS y f = some (.val (.ref X))) (hx : (X, oEq (instObj c D)) ∈ n) (hd : n[i]? = some (D, oEq (dictOf es k))) (hs : setIn w.params c attr = true) (hg : (getL attr es).isSome = true) (hl : es.length ≤ 100)
    (g : G C kp f (n.set i (D, fun o => ∃ t, o = dictOf (putL attr (PyData.keyHash w.params attr) (.str attr t) v es) (putN attr es k))) Q rest)
theorem g_setattr {y attr : Str} {e : Expr} (d : EvX C kp f n e (SetE C kp f y attr Q rest))
    (hloc : autoParam (isLoc cs y = true) tR) (hs : autoParam (isComp e = false) tR) : G C kp f n Q (.Assign [.Attribute (.Name y p2) attr p3] e pos :: rest) := .mk fun h t S =>
  wpAny_execs_cons (plainObj_wpAny_Assign_Attribute (d _ _ _ S fun v a n' h1 t1 hr ha S1 => by
    obtain ⟨v', X, c, D, es, k, i, rfl, hy, hx, hd, hset, hg, hlen, g⟩ := hr
    cases ha
    refine ev_name hy hloc _ _ _ S1 fun _ h2 t2 e2 S2 => ?_
    cases e2
    unfold setIn at hset
    rw [Bool.and_eq_true, Bool.and_eq_true, Bool.and_eq_true] at hset
    obtain ⟨o1, g1, e1, _⟩ := S2.at' hx
    obtain ⟨o2, g2, e2, _⟩ := S2.at' (List.mem_of_getElem? hd)
    cases e1; cases e2
    obtain ⟨m, news, o, g', F, _, N, hP, hmem, _, U, close⟩ := S2.open hd
    cases hP
    exact set_dict (s := C.at h2 t2) F (C_in C).1 N ⟨g1, rfl, rfl, g2⟩ rfl (beq_iff_eq.mp hset.1.1.1) hset.1.1.2 (beq_iff_eq.mp hset.1.2) hset.2 hg rfl (U _) (Nat.le_trans (putL_len _ _ _ _ _) (by omega)) fun h3 F3 N3 => g.run h3 _ (close _ _ h3 ⟨_, rfl⟩ F3 N3)) (swaps_not hs))
theorem g_chain3 {y z : Str} {e : Expr} {a : SV} {c : List Prop} (k : G C kp ((z, a) :: (y, a) :: (x, a) :: f) n Q rest) (d : autoParam (evE cs f 30 e [] = some (a, c)) tR) (hp : autoParam (AllP c) tT) (hx : autoParam (isLoc cs x = true) tR) (hy : autoParam (isLoc cs y = true) tR) (hz : autoParam (isLoc cs z = true) tR)
    (hw : autoParam (swappedStores [.Name x p2, .Name y p3, .Name z p4] e C.env = pure none) tR) : G C kp f n Q (.Assign [.Name x p2, .Name y p3, .Name z p4] e pos :: rest) := .mk fun h t S =>
  wpAny_execs_cons (wpAny_Assign_three (ev d hp _ _ _ S fun v h1 t1 ha S1 => assign_Name (st_store S1 ha hx fun h2 t2 S2 => assign_Name (st_store S2 ha hy fun h3 t3 S3 => assign_Name (st_store S3 ha hz fun h4 t4 S4 => k.run h4 t4 S4)))) (by rfl) hw)
inductive MatE (C : Cx w cs) (kp : List (Addr × Obj)) (f : SF) (x : Str) (xs : List Str) (Q : Flow → Shared → Prop) (rest : List Stmt) (a : SV) (n : SL) : Prop
  | mk (T : Addr) (P : Obj → Prop) (as : List SV) (e : a = .val (.ref T)) (hm : (T, P) ∈ n) (hP : ∀ o, P o → oMat as o) (hl : as.length = xs.length) (k : G C kp ((x, a) :: ((xs.zip as).reverse ++ f)) n Q rest)
theorem g_mat2 {ts : List Expr} {k : Nat} {tp : Pos} {e : Expr} {xs : List Str} (Y : MCls (model pw w) C.s.heap) (d : EvX C kp f n e (MatE C kp f x xs Q rest))
    (hx : autoParam (isLoc cs x = true) tR) (hn : autoParam (namesOf ts = some xs) tR) (hl : autoParam (xs.all (isLoc cs) = true) tR) (he : autoParam ((assignEach [.Tuple ts k tp, .Name x p2] C.env).map (·.2) = [assign (.Tuple ts k tp) C.env, assign (.Name x p2) C.env]) tR)
    (hw : autoParam (swappedStores [.Tuple ts k tp, .Name x p2] e C.env = pure none) tR) : G C kp f n Q (.Assign [.Tuple ts k tp, .Name x p2] e pos :: rest) := .mk fun h t S =>
  wpAny_execs_cons (wpAny_Assign_two (d _ _ _ S fun v a n' h1 t1 hr ha S1 => by
    obtain ⟨T, P, as, rfl, hm, hP, hlen, g⟩ := hr
    cases ha
    obtain ⟨m, F, R1⟩ := S1.fr
    obtain ⟨nw, N, K⟩ := S1.nw
    obtain ⟨o, g1, g2, _⟩ := S1.at' hm
    obtain ⟨u, v, z, dx, has, rfl⟩ := hP o g2
    refine assignM_K (s := C.at h1 t1) (items := #[u, v, z]) F N Y ⟨_, g1, rfl, 0, rfl⟩ C.hh (by rw [(names_len hn).1, ← hlen, ← has.length]; rfl) (names_len hn).2 fun h2 F2 N2 _ => ?_
    exact st_order hn hl has hlen (.mk' F2 R1 N2 K S1.nd S1.off) fun h3 t3 S3 => assign_Name (st_store (a := .val (.ref T)) S3 (by rfl) hx fun h4 t4 S4 => g.run h4 t4 S4)) he hw)
end
end
section
open PySem PySem.W PySem.Calls PySem.Spec PyProof PyProof.Rows
theorem MatsIn.at (X led : List (Addr × Obj)) (h : ∀ a o, o.cls = .ref 206 → (a, o) ∈ X → (a, o) ∈ led) : ∀ {vs : List Value} {bl : List (Nat × Nat × Nat)}, MatsIn X vs bl → MatsIn led vs bl
  | [], [], _ => trivial
  | _ :: _, _ :: _, ⟨⟨a, x, y, z, dx, e, e'⟩, T⟩ => ⟨⟨a, x, y, z, dx, e, h _ _ rfl e'⟩, MatsIn.at X led h T⟩
  | [], _ :: _, T => T.elim
  | _ :: _, [], T => T.elim
theorem Conc.back : ∀ {n : SL} {nw : List (Addr × Obj)} {a : Addr} {o : Obj}, Conc n nw → (a, o) ∈ nw → ∃ P, (a, P) ∈ n ∧ P o
  | p :: n, q :: l, a, o, h, hm => by
    rcases List.mem_cons.mp hm with e | hm
    · subst e
      exact ⟨p.2, by rw [← show p.1 = a from h.1]; exact .head _, h.2.1⟩
    · obtain ⟨P, h1, h2⟩ := Conc.back h.2.2 hm
      exact ⟨P, .tail _ h1, h2⟩
  | [], [], _, _, _, hm => nomatch hm
  | [], _ :: _, _, _, h, _ => h.elim
  | _ :: _, [], _, _, h, _ => h.elim
section
variable {w : World} {cs : Scope} {C : Cx w cs} {f : SF} {n : SL} {Q : Flow → Shared → Prop} {x : Str} {pos p2 p3 p4 : Pos} {rest : List Stmt} {α : Type} {R : SV → SL → Prop}
theorem g_sort {y : Str} {D : Addr} {vs : List Value} {i : Nat} {led : List (Addr × Obj)} {bl : List (Nat × Nat × Nat)} (Y : MCls (model pw w) C.s.heap) (hu : C.A.in1.units < cLine) (hy : lkS y f = some (.val (.ref D))) (hm : n[i]? = some (D, oLst (vs.map .val))) (hled : ∀ p ∈ led, (p.1, oEq p.2) ∈ n)
    (hback : ∀ a o, o.cls = .ref 206 → (∃ P, (a, P) ∈ n ∧ P o) → (a, o) ∈ led) (hM : MatsIn led vs bl) (h5 : bl.length ≤ 5) (hnd : (bl.map (·.1)).Nodup) (k : ∀ vs' bl', bl'.Perm bl → bl'.Pairwise (fun a b => a.1 < b.1) → MatsIn led vs' bl' → G C [] f (n.set i (D, oLst (vs'.map .val))) Q rest)
    (hloc : autoParam (isLoc cs y = true) tR) (hi : autoParam (interactive C.env = false) tR)
    (he : ∃ pl, eval (.Call (.Attribute (.Name y p2) "sort" p3) [] [] p4) C.env = (do
         let ov ← eval (.Name y p2) C.env
         standAt p3.atName
         let (f, first) ← holding [ov] (getMethod ov "sort" pl)
         callWith p4 f first (backTo p4 (starEach [] C.env)) []) := by exact ⟨_, rfl⟩) : G C [] f n Q (.Expr (.Call (.Attribute (.Name y p2) "sort" p3) [] [] p4) pos :: rest) := .mk fun h t S =>
  wpAny_execs_cons (wpAny_Expr (MethodCall_ (ev_name hy hloc _ _ _ S fun _ h1 t1 e0 S1 => by
    cases e0
    obtain ⟨m, F, R1⟩ := S1.fr
    obtain ⟨nw, N, K⟩ := S1.nw
    rw [List.append_nil] at N
    obtain ⟨pre, o, post, rfl, hP, hK⟩ := K.setAt hm
    obtain ⟨k9, rfl⟩ := oLst_vals hP
    have nd := S1.nd
    rw [K.addrs, List.map_append, List.map_cons, List.nodup_append] at nd
    obtain ⟨_, nd2, nd3⟩ := nd
    have ha : ∀ p ∈ pre, p.1 ≠ D := fun p hp => nd3 p.1 (List.mem_map.mpr ⟨p, hp, rfl⟩) D (.head _)
    have hb : ∀ p ∈ post, p.1 ≠ D := fun p hp q => (List.nodup_cons.mp nd2).1 (q ▸ List.mem_map.mpr ⟨p, hp, rfl⟩)
    have U : ∀ (pre : List (Addr × Obj)), (∀ p ∈ pre, p.1 ≠ D) → UpdF D (PySem.W.listOf vs.toArray k9) (pre ++ (D, PySem.W.listOf vs.toArray k9) :: post) fun o' => pre ++ (D, o') :: post := fun pre => by
      induction pre with
      | nil => exact fun _ => .head hb
      | cons p pre ih => exact fun a => .tail (a p (.head _)) (ih fun q hq => a q (.tail _ hq))
    have fwd : ∀ o', ∀ a o, o.cls = .ref 206 → (a, o) ∈ led → (a, o) ∈ pre ++ (D, o') :: post := fun o' a o hc hl => by
      obtain ⟨o2, h2, h3⟩ := K.mem (hled _ hl)
      cases h3
      rcases List.mem_append.mp h2 with h2 | h2
      · exact List.mem_append_left _ h2
      · rcases List.mem_cons.mp h2 with e | h2
        · cases e; cases hc
        · exact List.mem_append_right _ (.tail _ h2)
    refine kf_method (s := C.at _ t1) N (List.mem_append_right _ (.head _)) PySem.F.slot_list_sort PySem.F.type_list_sort ?_
    refine callWith_method0 ?_
    refine sort_all (s := C.at _ t1) hu F N Y (U pre ha) (fun o' => hM.at _ _ (fwd o')) h5 hnd fun h2 c vs' bl' hp hs hM' F2 N2 tk => ?_
    refine (k vs' bl' hp hs ((hM' (PySem.W.listOf vs'.toArray c)).at _ _ fun a o hc hm => hback a o hc ?_)).run h2 tk ⟨⟨m, F2, R1⟩, ⟨_, by rw [List.append_nil]; exact N2, hK _ _ ⟨vs', c, ?_, rfl⟩⟩, ?_, fun _ h => nomatch h⟩
    · have : (a, o) ∈ pre ++ (D, PySem.W.listOf vs.toArray k9) :: post := by
        rcases List.mem_append.mp hm with hm | hm
        · exact List.mem_append_left _ hm
        · rcases List.mem_cons.mp hm with e | hm
          · cases e; cases hc
          · exact List.mem_append_right _ (.tail _ hm)
      exact K.back this
    · clear hM' N2 hs hp
      induction vs' with
      | nil => trivial
      | cons v vs ih => exact ⟨rfl, ih⟩
    · rw [set_fst n i D _ _ hm]; exact S1.nd) he.choose_spec) hi rfl)
theorem no_list {p : Params} : nsIn (Kx p) mainGlobals "list" = some none := by kernel_rfl
theorem no_map {p : Params} : nsIn (Kx p) mainGlobals "map" = some none := by kernel_rfl
theorem dedup : ∀ (led : List (Addr × Obj)) {h : Heap}, (∀ p ∈ led, h.get? p.1 = some p.2) → ∃ led' : List (Addr × Obj), (led'.map (·.1)).Nodup ∧ (∀ p ∈ led', p ∈ led) ∧ ∀ p ∈ led, p ∈ led'
  | [], _, _ => ⟨[], List.Pairwise.nil, fun _ h => (nomatch h), fun _ h => nomatch h⟩
  | q :: l, h, hh => by
    obtain ⟨l', h1, h2, h3⟩ := dedup l fun p hp => hh p (.tail _ hp)
    by_cases hq : q.1 ∈ l'.map (·.1)
    · refine ⟨l', h1, fun p hp => .tail _ (h2 p hp), fun p hp => ?_⟩
      rcases List.mem_cons.mp hp with rfl | hp
      · obtain ⟨p', hp', e⟩ := List.mem_map.mp hq
        have e1 := hh _ (.head _)
        have e2 := hh p' (.tail _ (h2 p' hp'))
        rw [e, e1] at e2
        have : p' = p := Prod.ext e (Option.some.inj e2).symm
        exact this ▸ hp'
      · exact h3 p hp
    · refine ⟨q :: l', List.nodup_cons.mpr ⟨hq, h1⟩, fun p hp => ?_, fun p hp => ?_⟩
      · rcases List.mem_cons.mp hp with rfl | hp
        · exact .head _
        · exact .tail _ (h2 p hp)
      · rcases List.mem_cons.mp hp with rfl | hp
        · exact .head _
        · exact .tail _ (h3 p hp)
theorem EvX.listmap {y : Str} {na : Addr} {nv : List Value} {bl : List (Nat × Nat × Nat)} {led : List (Addr × Obj)} {keep : SL} {mc : Value} {p : Addr} {rs : List Value} {a1 a2 a3 a4 a5 a6 a7 : Pos}
    (hmake : ∀ (t : Addr) (a b c : Value), PurA w 160 [.ref 206, .ref t] 4 70 (fun h => IsTup h t #[a, b, c]) (NewR a b c)) (hd : C.A.depth + 4 < recursionLimit) (hu : C.A.units + 110 < cLine)
    (hm : typeIn (Kx w.params) (.ref 206) = some mc) (hr : readsIn (Kx w.params) 206 mc = true) (he : findCls (Kx w.params) (.ref 206) mc "_make" = some (.get (.builtin "classmethod.__get__") (.ref p) .none (.ref 206))) (hp : recIn (Kx w.params) p "classmethod" = some (.ref 160 :: rs)) (hM : nsIn (Kx w.params) mainGlobals "Match" = some (some (.ref 206)))
    (hy : lkS y f = some (.val (.ref na))) (hna : (na, oLst (nv.map .val)) ∈ n) (hT : TupsIn led nv bl) (hled : ∀ p ∈ led, (p.1, oEq p.2) ∈ n) (hsz : bl.length ≤ 100) (hkeep : Pick keep n) (hcls : ∀ a P, (a, P) ∈ keep → ∀ o, P o → o.cls ≠ .ref 206 ∧ o ≠ emptyD)
    (k : ∀ r made acc c, MatsIn made acc bl → DxIn made → R (.val (.ref r)) (keep ++ ((r, oEq (PySem.W.listOf acc.toArray c)) :: oEqs made)))
    (hloc : autoParam (isLoc cs y = true) tR) (hg1 : autoParam (isGlo cs "list" = true) tR) (hg2 : autoParam (isGlo cs "map" = true) tR) (hg3 : autoParam (isGlo cs "Match" = true) tR) :
    EvX C [] f n (.Call (.Name "list" a1) [.Call (.Name "map" a2) [.Attribute (.Name "Match" a3) "_make" a4, .Name y a5] [] a6] [] a7) R := fun _ h t S q =>
  Call_ (ev_B no_list rfl (by decide) hg1 (by decide) _ _ _ S fun _ h0 t0 e0 S0 => by
    cases e0
    refine PyProof.Rows.callWith_type1 (args_cons (Call_ (ev_B no_map rfl (by decide) hg2 (by decide) _ _ _ S0 fun _ h1 t1 e1 S1 => ?_) rfl) rfl) rfl rfl
    cases e1
    refine PyProof.Rows.callWith_type1 (args_cons (Attribute_Name_ (ev_K hM hg3 (by decide) _ _ _ S1 fun _ h2 t2 e2 S2 => ?_)) rfl) rfl rfl
    cases e2
    obtain ⟨m, news, F, _, N, _, add, _⟩ := S2.use
    refine cls_cm (s := C.at h2 t2) F (C_in C).1 N hm hr he hp fun q1 h3 F3 N3 l3 => ?_
    have S3 := add h3 q1 _ (oEq (methodObj (.ref 160) (.ref 206))) F3 N3 l3 rfl
    refine args_cons (ev_name (a := .val (.ref na)) hy hloc _ _ _ S3 fun _ h4 t4 e4 S4 => args_nil ?_) rfl
    cases e4
    obtain ⟨m, news, F, R1, N, at', _, _⟩ := S4.use
    obtain ⟨o1, g1, g2⟩ := at' _ _ (.tail _ hna)
    obtain ⟨k1, rfl⟩ := oLst_vals g2
    refine map_K (s := C.at h4 t4) F N g1 fun it IT I h5 F5 N5 l5 l6 l7 => args_nil ?_
    obtain ⟨o2, g3, g4⟩ := at' _ _ (.head _)
    cases g4
    refine list_map_K (s := C.at h5 t4) (bl := bl) (vs := nv) (rest := (IT, _) :: (I, _) :: news) hmake hd hu ⟨C.hh, F5, C.site⟩ F5 N5 (.tail _ (.head _)) (.head _) (.tail _ (.tail _ g3)) (.tail _ (.tail _ g1)) (fun p hp => ?_) (hT.more fun p hp => ?_) hsz fun r h6 t6 made acc c F6 N6 hne hM9 hcl => ?_
    · rcases List.mem_cons.mp hp with rfl | hp
      · exact Nat.ne_of_gt l6
      rcases List.mem_cons.mp hp with rfl | hp
      · exact Nat.ne_of_gt (Nat.lt_trans l6 l7)
      · exact Nat.ne_of_lt (l5 p hp)
    · obtain ⟨o, h8, h9⟩ := at' _ _ (.tail _ (hled p hp))
      cases h9
      exact .tail _ (.tail _ h8)
    obtain ⟨made', d1, d2, d3⟩ := dedup made (h := h6) fun p hp => (N6 p (.tail _ (List.mem_append_left _ hp))).1
    have hk : ∀ p ∈ keep, ∃ o, p.2 o ∧ (p.1, o) ∈ news := fun p hp => by
      obtain ⟨P, h8, h9⟩ := hkeep.sub p hp
      obtain ⟨o, ha, hb⟩ := at' _ _ (.tail _ h8)
      exact ⟨o, h9 o hb, ha⟩
    obtain ⟨nw', N', K'⟩ := Conc.one (h₀ := C.s.heap) (h := h6) (L := C.L) ((r, oEq (PySem.W.listOf acc.toArray c)) :: (oEqs made' ++ keep)) fun p hp => by
      rcases List.mem_cons.mp hp with rfl | hp
      · exact ⟨_, rfl, N6 _ (.head _)⟩
      rcases List.mem_append.mp hp with hp | hp
      · obtain ⟨p', hp', rfl⟩ := List.mem_map.mp hp
        exact ⟨_, rfl, N6 _ (.tail _ (List.mem_append_left _ (d2 p' hp')))⟩
      · obtain ⟨o, ho, hm⟩ := hk p hp
        exact ⟨o, ho, N6 _ (.tail _ (List.mem_append_right _ (.tail _ (.tail _ hm))))⟩
    refine q _ _ _ h6 t6 (k r made' acc c (hM9.more d3) fun p hp dx e => d3 _ (hcl.2 p (d2 p hp) dx e)) rfl (StS.pick (kp := []) (n := (r, oEq (PySem.W.listOf acc.toArray c)) :: (oEqs made' ++ keep)) ⟨⟨m, F6, R1⟩, ⟨nw', by rw [List.append_nil]; exact N', K'⟩, ?_, fun _ h => nomatch h⟩ (.perm List.perm_append_comm))
    have e1 : (oEqs made').map (·.1) = made'.map (·.1) := by unfold oEqs; rw [List.map_map]; rfl
    rw [List.map_cons, List.map_append, e1]
    refine List.nodup_cons.mpr ⟨fun hm => ?_, List.nodup_append.mpr ⟨d1, hkeep.nd (List.nodup_cons.mp S4.nd).2, fun a ha b hb e => ?_⟩⟩
    · rcases List.mem_append.mp hm with hm | hm
      · obtain ⟨p', hp', e⟩ := List.mem_map.mp hm
        exact hne p' (List.mem_append_left _ (d2 p' hp')) e
      · obtain ⟨p', hp', e⟩ := List.mem_map.mp hm
        obtain ⟨o, _, ho⟩ := hk p' hp'
        exact hne _ (List.mem_append_right _ (.tail _ (.tail _ ho))) e
    · subst e
      obtain ⟨p1, hp1, rfl⟩ := List.mem_map.mp ha
      obtain ⟨p2, hp2, e⟩ := List.mem_map.mp hb
      obtain ⟨o, ho, hm⟩ := hk p2 hp2
      have q1 := (N6 _ (.tail _ (List.mem_append_left _ (d2 p1 hp1)))).1
      have q2 := (N6 _ (.tail _ (List.mem_append_right _ (.tail _ (.tail _ hm))))).1
      rw [show (p2.1, o).1 = p1.1 from e, q1] at q2
      cases q2
      have := hcls p2.1 p2.2 hp2 _ ho
      rcases hcl.1 p1 (d2 p1 hp1) with h | h
      · exact this.1 h
      · exact this.2 h) rfl
end
end
section
open PySem PySem.W PySem.Calls PySem.Spec PyProof PyProof.Rows
section
variable {w : World} {cs : Scope} {C : Cx w cs} {kp : List (Addr × Obj)} {f : SF} {n : SL} {Q : Flow → Shared → Prop} {x : Str} {pos p2 p3 p4 p5 p6 : Pos} {rest : List Stmt} {α : Type} {R : SV → SL → Prop}
theorem gt_base {T : Addr} {o : Obj} {as : List SV} {xs : List Str} {ts : List Expr} {k : Nat} {tp : Pos} {body : List Stmt} (hb : C.s.heap.get? T = some o) (hP : oTup as o) (g : G C kp ((xs.zip as).reverse ++ f) n Q body) (hn : autoParam (namesOf ts = some xs) tR) (hl : autoParam (xs.all (isLoc cs) = true) tR) (hlen : autoParam (as.length = xs.length) tR) :
    GT C kp f n (.val (.ref T)) (.Tuple ts k tp) Q body := fun v h t ha S => by
  cases ha
  obtain ⟨m, F, R1⟩ := S.fr
  obtain ⟨nw, N, K⟩ := S.nw
  obtain ⟨vs, has, rfl⟩ := hP
  refine unpackN_ (s := C.at h t) F N ⟨_, F.keep _ _ hb, rfl, 0, rfl⟩ C.hh (by rw [(names_len hn).1, ← hlen, ← has.length, List.size_toArray]) (names_len hn).2 fun h2 F2 N2 => ?_
  exact st_order hn hl has hlen (.mk' F2 R1 N2 K S.nd S.off) fun h3 t3 S3 => g.run h3 t3 S3
theorem ev_last {y : Str} {D : Addr} {as : List SV} {a : SV} {i : Nat} (hy : lkS y f = some (.val (.ref D))) (hm : (D, oLst (as ++ [a])) ∈ n) (hloc : autoParam (isLoc cs y = true) tR) : Ev C kp f n (.Subscript (.Name y p2) (.UnaryOp .USub (.Constant (.int 1) i p3) p4) pos) a := fun _ _ _ S q =>
  Subscript_ (ev_name hy hloc _ _ _ S fun _ h1 t1 e0 S1 => UnaryOp_ (wpAny_Constant_int (neg_int (by
    cases e0
    obtain ⟨m, news, F, _, N, at', _, _⟩ := S1.use
    obtain ⟨o, h2, us, k, has, rfl⟩ := at' _ _ hm
    obtain ⟨us, u, rfl, h3, h4⟩ := has.unapp
    exact getLast (s := C.at h1 _) N h2 (q _ _ _ h4 S1)))))
theorem g_setLast {y : Str} {D : Addr} {as : List SV} {a b : SV} {i j : Nat} {e : Expr} (hy : lkS y f = some (.val (.ref D))) (hm : n[j]? = some (D, oLst (as ++ [a]))) (d : Ev C kp f n e b) (k : G C kp f (n.set j (D, oLst (as ++ [b]))) Q rest) (hloc : autoParam (isLoc cs y = true) tR) (hs : autoParam (isComp e = false) tR) :
    G C kp f n Q (.Assign [.Subscript (.Name y p2) (.UnaryOp .USub (.Constant (.int 1) i p3) p4) p5] e pos :: rest) := .mk fun h t S =>
  wpAny_execs_cons (wpAny_Assign_Subscript (d _ _ _ S fun v h1 t1 hv S1 => ev_name hy hloc _ _ _ S1 fun _ h2 t2 e2 S2 => UnaryOp_ (wpAny_Constant_int (neg_int (by
    cases e2
    obtain ⟨m, news, o, g', F, _, N, hP, hmem, _, U, close⟩ := S2.open hm
    obtain ⟨us, l, has, rfl⟩ := hP
    obtain ⟨us, u, rfl, h3, h4⟩ := has.unapp
    exact setLast (s := C.at h2 _) F N (U _) fun h6 F6 N6 => k.run h6 _ (close _ _ h6 ⟨us ++ [v], l, h3.app ⟨hv, trivial⟩, rfl⟩ F6 N6))))) (swaps_not hs))
theorem tups_as {h : Heap} : ∀ {vs : List Value} {bl : List (Nat × Nat × Nat)}, TupsAt h vs bl → AllIs (vs.map .val) vs
  | [], [], _ => trivial
  | _ :: _, _ :: _, ⟨_, T⟩ => ⟨rfl, tups_as T⟩
  | [], _ :: _, T => T.elim
  | _ :: _, [], T => T.elim
theorem AllIs.vals (vs : List Value) : AllIs (vs.map .val) vs := by
  induction vs with
  | nil => trivial
  | cons v vs ih => exact ⟨rfl, ih⟩
theorem oTup_tup3 {b : Nat × Nat × Nat} {x y z : Tok} : oTup [.num b.1, .num b.2.1, .num b.2.2] (tup3 b x y z) := ⟨[.int b.1 x, .int b.2.1 y, .int b.2.2 z], ⟨⟨x, rfl⟩, ⟨y, rfl⟩, ⟨z, rfl⟩, trivial⟩, rfl⟩
theorem mk_len (x : List Nat) : (Str.mk x.toArray).length = x.length := by simp [Str.length]
noncomputable def sx (x : List Nat) : SV := .txt ⟨x.toArray⟩
theorem strs_of : ∀ {xs : List (List Nat)} {vs : List Value}, AllIs (xs.map sx) vs → StrsOf vs xs
  | [], [], _ => trivial
  | _ :: _, _ :: _, h => ⟨⟨_, h.1.2.choose_spec⟩, strs_of h.2⟩
  | [], _ :: _, h => h.elim
  | _ :: _, [], h => h.elim
end
end
section
open PySem PySem.W PySem.Calls PySem.Spec PyProof PyProof.Rows
theorem NewIn.led {h h' : Heap} {r : Addr} {o : Obj} {tl : List (Addr × Obj)} (hn : NewIn h h' ((r, o) :: tl)) : ∃ tl', NewC h h' ((r, oEq o) :: oEqs tl') ∧ ∀ p ∈ tl, p ∈ (r, o) :: tl' := by
  obtain ⟨t, h1, h2, h3⟩ := dedup tl fun p hp => (hn p (.tail _ hp)).2
  refine ⟨t.filter (fun p => p.1 != r), ⟨fun p hp => ?_, ?_⟩, fun p hp => ?_⟩
  · rcases List.mem_cons.mp hp with rfl | hp
    · exact ⟨(hn _ (.head _)).1, _, (hn _ (.head _)).2, rfl⟩
    · obtain ⟨q, hq, rfl⟩ := List.mem_map.mp hp
      have := hn q (.tail _ (h2 q (List.mem_filter.mp hq).1))
      exact ⟨this.1, _, this.2, rfl⟩
  · unfold oEqs
    rw [List.map_cons, List.map_map]
    refine List.nodup_cons.mpr ⟨fun hm => ?_, h1.sublist ((List.filter_sublist (l := t)).map _)⟩
    obtain ⟨q, hq, e⟩ := List.mem_map.mp hm
    exact absurd e (by simpa using (List.mem_filter.mp hq).2)
  · by_cases e : p.1 = r
    · have e1 := (hn p (.tail _ hp)).2
      have e2 := (hn _ (.head _)).2
      rw [e] at e1
      rw [show p = (r, o) from Prod.ext e (Option.some.inj (e1.symm.trans e2))]
      exact .head _
    · exact .tail _ (List.mem_filter.mpr ⟨h3 p hp, by simpa using e⟩)
section
variable {w : World} {cs : Scope} {C : Cx w cs} {kp : List (Addr × Obj)} {f : SF} {n : SL} {Q : Flow → Shared → Prop} {x : Str} {pos p2 p3 p4 p5 p6 : Pos} {rest : List Stmt} {α : Type} {R : SV → SL → Prop}
inductive AddE (R : SV → SL → Prop) (a b : SV) (n : SL) : Prop
  | mk (A B : Addr) (as bs : List SV) (e : a = .val (.ref A)) (e' : b = .val (.ref B)) (hA : (A, oLst as) ∈ n) (hB : (B, oLst bs) ∈ n) (hl : as.length + bs.length ≤ big) (k : ∀ D, R (.val (.ref D)) ((D, oLst (as ++ bs)) :: n))
theorem EvX.addL {l r : Expr} (d : EvX C kp f n l (fun a n1 => EvX C kp f n1 r (AddE R a))) : EvX C kp f n (.BinOp l .Add r pos) R := fun _ _ _ S q =>
  wpAny_BinOp (d _ _ _ S fun v1 a n1 h1 t1 hr1 ha S1 => hr1 _ _ _ S1 fun v2 b n2 h2 t2 hr2 hb S2 => by
    obtain ⟨A, B, as, bs, rfl, rfl, hA, hB, hl, k⟩ := hr2
    cases ha; cases hb
    obtain ⟨m, news, F, _, N, at', add, _⟩ := S2.use
    obtain ⟨o1, g1, us, i, h3, rfl⟩ := at' _ _ hA
    obtain ⟨o2, g2, vs, j, h4, rfl⟩ := at' _ _ hB
    exact kmk_add_lit (s := C.at h2 t2) F N ⟨_, N.get g1, rfl, _, rfl⟩ ⟨_, N.get g2, rfl, _, rfl⟩ rfl (fun D h' F' N' lt => q _ _ _ h' t2 (k D) rfl (add h' D _ _ F' N' lt ⟨us ++ vs, 0, h3.app h4, rfl⟩)) (by rw [← h3.length, ← h4.length] at hl; exact small_list hl))
end
theorem oLst_eq {vs : List Value} {k : Nat} {o : Obj} (h : oEq (PySem.W.listOf vs.toArray k) o) : oLst (vs.map .val) o := ⟨vs, k, AllIs.vals vs, h⟩
end
section
open PySem PySem.W PySem.Calls PySem.Spec PyProof PyProof.Rows PySem.Builtin PySem.Builtin.Str
noncomputable def find4 (x y : Str) (i j : Int) : Int := match occurrences x y (fromIndex x.length i) (min (fromIndex x.length j) x.length) 1 with | k :: _ => (k : Int) | [] => -1
theorem gives_find4 (x y : Str) (i j : Int) (t u v z : Tok) : PySem.Gives («str.find» ⟨[.str x t, .str y u, .int i v, .int j z], []⟩) (.int (find4 x y i j)) := by
  show PySem.Gives (match occurrences x y (fromIndex x.length i) (min (fromIndex x.length j) x.length) 1 with | k :: _ => retInt k | [] => (do rule "str.find.not-found"; retInt (-1))) _
  unfold find4
  cases occurrences x y (fromIndex x.length i) (min (fromIndex x.length j) x.length) 1 with
  | nil => exact .rule (.of_eq rfl)
  | cons k _ => exact .of_eq rfl
section
variable {prog : Program} {w : World} {A : Around} {E : Value → Shared → Prop} {s : Shared} {x y : Str} {t u v z : Tok} {i j : Int} {Q : Value → Shared → Prop}
theorem call_find4 (hq : Q (.int (find4 x y i j) s.toks) { s with toks := s.toks + 1 }) : wpAny (model prog w) A (call (.builtin "str.find") [.str x t, .str y u, .int i v, .int j z]) Q E s :=
  call_gives F.slot_str_find (typeIs_str _ _ _) F.entry_str_find (F.args_str_find_4 _ _ _ _) (gives_find4 x y i j t u v z) hq
end
theorem occ_at (x y : Str) (lo hi : Nat) :
    (occurrences x y lo hi 1 = [] ∧ ∀ i, lo ≤ i → ¬ StrLaws.At x y hi i) ∨
    ∃ i r, occurrences x y lo hi 1 = i :: r ∧ lo ≤ i ∧ StrLaws.At x y hi i ∧ ∀ k, lo ≤ k → k < i → ¬ StrLaws.At x y hi k := by
  rw [StrLaws.occ_eq]
  rcases StrLaws.occ_first x y hi 1 (Nat.le_refl _) (List.range' lo (hi + 1 - lo)) lo (fun i hi => by have := List.mem_range'_1.mp hi; lia) with ⟨h0, hn⟩ | ⟨pre, a, post, e, h0, ha, hn⟩
  · refine .inl ⟨by rw [h0], fun i hlo hi => ?_⟩
    exact hn i (by have := hi.1; rw [List.mem_range'_1]; lia) hi
  · have hs := StrLaws.range'_split_from e
    refine .inr ⟨a, ((forIn (List.range' lo (hi + 1 - lo)) ((#[] : Array Nat), lo) (StrLaws.occBody x y hi 1)).run.fst.toList).tail, ?_, hs.1, ha, fun k hk0 hk => hn k (hs.2 k hk0 hk)⟩
    generalize (forIn (List.range' lo (hi + 1 - lo)) ((#[] : Array Nat), lo) (StrLaws.occBody x y hi 1)).run.fst = arr at h0
    have h1 : arr.toList[0]? = some a := by simpa using h0
    cases hL : arr.toList with
    | nil => rw [hL] at h1; cases h1
    | cons b t => rw [hL] at h1; simp at h1; rw [h1]; rfl
noncomputable def atB (text q : List Nat) (last i : Nat) : Bool := decide (i + q.length ≤ last) && ((text.drop i).take q.length == q)
noncomputable def findM (text q : List Nat) (place last : Nat) : Option Nat := (List.range' place (last + 1 - place)).find? (atB text q last)
theorem at_iff (x y : Str) (hi i : Nat) : StrLaws.At x y hi i ↔ atB x.cps.toList y.cps.toList hi i = true := by
  unfold StrLaws.At atB subAt
  have e1 : y.length = y.cps.toList.length := by simp [Str.length]
  rw [Bool.and_eq_true, decide_eq_true_eq, e1]
  refine and_congr Iff.rfl ?_
  rw [beq_iff_eq, beq_iff_eq, ← Array.toList_inj]
  simp [Array.toList_extract, List.extract_eq_take_drop]
theorem find4_is (x y : Str) (i j : Nat) (hj : j ≤ x.length) : find4 x y i j = match findM x.cps.toList y.cps.toList i j with | some k => (k : Int) | none => -1 := by
  unfold find4
  have e1 : fromIndex x.length (i : Int) = i := by unfold fromIndex; have : ¬ (i : Int) < 0 := by lia
                                                   simp [this]
  have e2 : min (fromIndex x.length (j : Int)) x.length = j := by unfold fromIndex; have : ¬ (j : Int) < 0 := by lia
                                                                  simp [this]; lia
  rw [e1, e2]
  unfold findM
  rcases occ_at x y i j with ⟨h0, hn⟩ | ⟨k, r, h0, h1, h2, h3⟩
  · rw [h0]
    have : (List.range' i (j + 1 - i)).find? (atB x.cps.toList y.cps.toList j) = none := by
      rw [List.find?_eq_none]
      intro a ha hat
      exact hn a (List.mem_range'_1.mp ha).1 ((at_iff _ _ _ _).mpr hat)
    rw [this]
  · rw [h0]
    have : (List.range' i (j + 1 - i)).find? (atB x.cps.toList y.cps.toList j) = some k := by
      rw [List.find?_range'_eq_some]
      refine ⟨(at_iff _ _ _ _).mp h2, ?_, fun a ha hka => ?_⟩
      · have := h2.1; rw [List.mem_range'_1]; lia
      · have := h3 a ha hka
        rw [at_iff] at this
        simpa using this
    rw [this]
theorem findM_some {text q : List Nat} {place last k : Nat} (h : findM text q place last = some k) : place ≤ k ∧ k + q.length ≤ last ∧ (text.drop k).take q.length = q ∧ ∀ a, place ≤ a → a < k → atB text q last a = false := by
  unfold findM at h
  rw [List.find?_range'_eq_some] at h
  obtain ⟨h1, h2, h3⟩ := h
  unfold atB at h1
  simp only [Bool.and_eq_true, decide_eq_true_eq, beq_iff_eq] at h1
  exact ⟨(List.mem_range'_1.mp h2).1, h1.1, h1.2, fun a ha hk => by have := h3 a ha hk; simpa using this⟩
theorem findM_none {text q : List Nat} {place last : Nat} (h : findM text q place last = none) : ∀ a, place ≤ a → atB text q last a = false := by
  intro a ha
  unfold findM at h
  rw [List.find?_eq_none] at h
  by_cases hl : a ≤ last
  · have := h a (by rw [List.mem_range'_1]; lia)
    simpa using this
  · unfold atB
    rw [Bool.and_eq_false_iff]
    left
    rw [decide_eq_false_iff_not]
    lia
noncomputable def saidLoop (text : List Nat) (last : Nat) : List (List Nat) → Nat → Option Nat
  | [], place => some place
  | q :: qs, place => match findM text q place last with
    | none => none
    | some k => saidLoop text last qs (k + q.length)
noncomputable def saidM (text : List Nat) (ps : List (List Nat)) : Bool :=
  if ps.length = 1 then text == ps.headD [] else
  if text.take (ps.headD []).length ≠ ps.headD [] ∨ text.length < (ps.headD []).length + (ps.getLastD []).length ∨ text.drop (text.length - (ps.getLastD []).length) ≠ ps.getLastD [] then false else
  (saidLoop text (text.length - (ps.getLastD []).length) ps.tail.dropLast (ps.headD []).length).isSome
theorem saidM_two (text p q : List Nat) (pm : List (List Nat)) : saidM text (p :: (pm ++ [q])) =
    if text.take p.length ≠ p ∨ text.length < p.length + q.length ∨ text.drop (text.length - q.length) ≠ q then false else (saidLoop text (text.length - q.length) pm p.length).isSome := by
  have e1 : (p :: (pm ++ [q])).getLastD [] = q := by
    rw [List.getLastD_eq_getLast?, ← List.cons_append, List.getLast?_concat]; rfl
  unfold saidM
  rw [if_neg (by simp), e1]
  simp only [List.headD_cons, List.tail_cons, List.dropLast_concat]
theorem slicePick_mid (v q : Value) (vm : List Value) : slicePick (v :: vm ++ [q]).toArray (some 1) (some (-1)) none = vm.toArray := by
  rw [slicePick_plain]
  have e1 : clipAt (v :: vm ++ [q]).toArray.size 1 = 1 := by rw [show (1 : Int) = ((1 : Nat) : Int) from rfl, clipAt_nat]; simp
  have e2 : clipAt (v :: vm ++ [q]).toArray.size (-1) = vm.length + 1 := by rw [show (-1 : Int) = -((1 : Nat) : Int) from rfl, clipAt_neg _ _ (Nat.le_refl _)]; simp
  simp only [Option.elim, e1, e2]
  simp
theorem saidLoop_append (text : List Nat) (last : Nat) : ∀ (a b : List (List Nat)) (pl : Nat), saidLoop text last (a ++ b) pl = (saidLoop text last a pl).bind (saidLoop text last b)
  | [], b, pl => rfl
  | q :: a, b, pl => by
    simp only [List.cons_append, saidLoop]
    cases findM text q pl last with
    | none => rfl
    | some k => exact saidLoop_append text last a b _
noncomputable def joinL (sep : List Nat) : List (List Nat) → List Nat
  | [] => []
  | [x] => x
  | x :: y :: r => x ++ sep ++ joinL sep (y :: r)
theorem join_is (sep : List Nat) : ∀ xs : List (List Nat), Str.join ⟨sep.toArray⟩ (xs.map fun x => ⟨x.toArray⟩) = ⟨(joinL sep xs).toArray⟩
  | [] => rfl
  | [x] => rfl
  | x :: y :: r => by
    show ((⟨x.toArray⟩ : Str) ++ ⟨sep.toArray⟩) ++ Str.join ⟨sep.toArray⟩ ((y :: r).map fun x => ⟨x.toArray⟩) = _
    rw [join_is sep (y :: r), str_app, str_app]; rfl
theorem strsAre_of : ∀ {vs : List Value} {xs : List (List Nat)}, StrsOf vs xs → StrsAre vs (xs.map fun x => ⟨x.toArray⟩)
  | [], [], _ => .nil
  | _ :: _, _ :: _, ⟨⟨t, e⟩, h⟩ => by rw [e]; exact .cons _ _ (strsAre_of h)
  | [], _ :: _, h => h.elim
  | _ :: _, [], h => h.elim
theorem join_of {prog : Program} {w : World} {A : Around} {E : Value → Shared → Prop} {s : Shared} {sep : List Nat} {t : Tok} {Q : Value → Shared → Prop} {D : Addr} {vs : List Value} {xs : List (List Nat)}
    (hl : s.heap.IsList D vs.toArray) (hS : StrsOf vs xs) (hok : (xs.map List.length).sum + xs.length * sep.length ≤ 16777216)
    (h : ∀ t' k, Q (.str ⟨(joinL sep xs).toArray⟩ t') { s with toks := k }) : wpAny (model prog w) A (call (.builtin "str.join") [.str ⟨sep.toArray⟩ t, .ref D]) Q E s := by
  refine join_list hl (strsAre_of hS) ?_ fun t' k => ?_
  · have e1 : ((xs.map fun x => (⟨x.toArray⟩ : Str)).map (·.length)) = xs.map List.length := by
      rw [List.map_map]; rfl
    rw [e1, List.length_map]; exact hok
  · have e : Txt.join ⟨sep.toArray⟩ (xs.map fun x => (⟨x.toArray⟩ : Str)) = ⟨(joinL sep xs).toArray⟩ := by
      unfold Txt.join; rw [StrLaws.glued_eq_join, join_is]
    rw [e]; exact h t' k
noncomputable def escM (c : Nat) : List Nat := if c = 43 then [92, 43] else [c]
noncomputable def endsStep (text : List Nat) (ends : List Nat) : Option (List Nat) → List Nat
  | none => (List.range (text.length + 1)).filter fun e => !ends.isEmpty && decide (ends.headD 0 ≤ e)
  | some x => (ends.filter fun e => decide (e < text.length) && (x == escM (text.getD e 0))).map (· + 1)
noncomputable def endsM (text : List Nat) (ps : List (Option (List Nat))) : List Nat := ps.foldl (endsStep text) [0]
noncomputable def fitsM (text : List Nat) (ps : List (Option (List Nat))) : Bool := (endsM text ps).contains text.length
noncomputable def trStep (acc : List (Option (List Nat))) (c : Nat) : List (Option (List Nat)) := if c = 42 then (if acc.getLast? = some none then acc else acc ++ [none]) else acc ++ [some (escM c)]
end
section
open PySem PySem.W PySem.Calls PySem.Spec PyProof PyProof.Rows
section
variable {w : World} {cs : Scope} {md : Bool} {C : CxU w cs md} {kp : List (Addr × Obj)} {f : SF} {n : SL} {Q : Flow → Shared → Prop} {x y : Str} {pos p2 p3 p4 p5 p6 : Pos} {rest : List Stmt} {α : Type} {R : SV → SL → Prop} {r : Addr} {as : List SV} {a : SV} {v : Value}
def LstIn (h : Heap) (r : Addr) (as : List SV) : Prop := ∃ vs, AllIs as vs ∧ h.IsList r vs.toArray
def LstAt (C : CxU w cs md) (kp : List (Addr × Obj)) (f : SF) (n : SL) (r : Addr) (as : List SV) : Prop := ∀ h, C.St kp f n h → LstIn h r as
theorem LstAt.base {vs : List Value} (hl : C.s.heap.IsList r vs.toArray) (h : AllIs as vs) : LstAt C kp f n r as := fun hh S => by
  obtain ⟨m, F, _⟩ := S.fr
  exact ⟨vs, h, hl.at fun o e => F.keep r o e⟩
theorem LstAt.own (hm : (r, oLst as) ∈ n) : LstAt C kp f n r as := fun hh S => by
  obtain ⟨o, h1, ⟨vs, k, h2, rfl⟩, _⟩ := S.at' hm
  exact ⟨vs, h2, _, h1, rfl, k, rfl⟩
theorem no_len' {p : Params} : nsIn (Kx p) mainGlobals "len" = some none := by kernel_rfl
theorem ev_lenL {e : Expr} (d : Ev C kp f n e (.val (.ref r))) (hl : LstAt C kp f n r as) (hk : as.length ≤ 16384) (hg : autoParam (isGlo cs "len" = true) tR) (hs : autoParam (isStar e = false) tR) : Ev C kp f n (.Call (.Name "len" p2) [e] [] pos) (.num as.length) := fun _ _ _ S q =>
  Call_ (ev_B no_len' rfl (by decide) hg (by decide) _ _ _ S fun _ _ _ e0 S0 => by
    cases e0
    refine callWith_builtin1 (args_cons (d _ _ _ S0 fun _ h1 t1 e1 S1 => args_nil ?_) (star_not hs)) (star_not hs) rfl
    cases e1
    obtain ⟨vs, h2, h3⟩ := hl _ S1
    exact kun_lenL (s := C.at h1 t1) h3 (by rw [List.size_toArray, h2.length]) (by lia) (q _ _ _ ⟨_, rfl⟩ S1)) (by cases e <;> rfl)
theorem ev_itemL {e ix : Expr} {i : Int} (d : Ev C kp f n e (.val (.ref r))) (hl : LstAt C kp f n r as) (di : Ev C kp f n ix (.num i)) (h0 : 0 ≤ i) (hi : i < 2 ^ 63) (hj : as[i.toNat]? = some a) (hs : autoParam (isSlice ix = false) tR) (hg : ∀ v, letTemporaryGo e (.ref r) v = pure () := by exact fun _ => rfl) : Ev C kp f n (.Subscript e ix pos) a := fun _ _ _ S q =>
  Subscript_ (d _ _ _ S fun _ h1 t1 e0 S1 => di _ _ _ S1 fun _ h2 t2 ⟨_, e2⟩ S2 => by
    cases e0; subst e2
    obtain ⟨vs, h2, h3⟩ := hl _ S2
    obtain ⟨v, g4, g5⟩ := h2.get hj
    exact item_listL (s := C.at _ _) (l := vs) h3 h0 hi g4 (q _ _ _ g5 S2) (sub_plain hs _ _) hg)
theorem tst_op {op : CmpOp} {l r : Expr} {a b : SV} {p : Prop} (h1 : Ev C kp f n l a) (h2 : Ev C kp f n r b) (h : autoParam (cmpV op (isNone r) (some (a, [])) (fun c => some (b, c)) = some (p, [])) tR) : Tst C kp f n (.Compare l [op] [r] pos) p :=
  (cmp_ok (c := []) (vl := some (a, [])) (vr := fun c => some (b, c)) (.one h1) (fun _ => .one h2) p [] h trivial).2
theorem tstW_or {e : Expr} {es : List Expr} {p q : Prop} (h : Tst C kp f n e p) (h2 : ¬ p → TstW C kp f n (.BoolOp .Or es pos) q) : TstW C kp f n (.BoolOp .Or (e :: es) pos) (p ∨ q) := tst_or h h2
theorem tstW_nilO {p : Pos} : TstW C kp f n (.BoolOp .Or [] p) False := fun _ _ _ _ S q => isTrue_or_nil (q _ _ _ ⟨fun h => Bool.noConfusion h, fun h => False.elim h⟩ S)
theorem ev_eqT {l r : Expr} (h1 : Ev C kp f n l (.txt x)) (h2 : Ev C kp f n r (.txt y)) : Ev C kp f n (.Compare l [.Eq] [r] pos) (.val (.bool (x == y))) := fun _ _ _ S q =>
  wpAny_Compare1 (h1 _ _ _ S fun _ _ _ ⟨_, _, e1⟩ S1 => h2 _ _ _ S1 fun _ _ _ ⟨_, _, e2⟩ S2 => by subst e1 e2; exact eq_str (q _ _ _ rfl S2)) (marks_not (by decide) (by decide))
end
section
variable {w : World} {cs : Scope} {C : Cx w cs} {kp : List (Addr × Obj)} {f : SF} {n : SL} {Q : Flow → Shared → Prop} {x y : Str} {pos p2 p3 p4 p5 p6 : Pos} {rest : List Stmt} {α : Type} {R : SV → SL → Prop} {r : Addr} {as : List SV} {a : SV} {v : Value}
theorem ev_lastL {i : Nat} (hy : lkS y f = some (.val (.ref r))) (hl : LstAt C kp f n r (as ++ [a])) (hloc : autoParam (isLoc cs y = true) tR) : Ev C kp f n (.Subscript (.Name y p2) (.UnaryOp .USub (.Constant (.int 1) i p3) p4) pos) a := fun _ _ _ S q =>
  Subscript_ (ev_name hy hloc _ _ _ S fun _ h1 t1 e0 S1 => UnaryOp_ (wpAny_Constant_int (neg_int (by
    cases e0
    obtain ⟨vs, h2, h3⟩ := hl _ S1
    obtain ⟨us, u, rfl, h4, h5⟩ := h2.unapp
    exact kde_neg (s := C.at h1 _) (vs := us ++ [u]) h3 (by decide) (by decide) (seqIndex_last us u) (by simp) (q _ _ _ h5 S1)))))
theorem ev_bool {b : Bool} {i : Nat} : Ev C kp f n (.Constant (.bool b) i pos) (.val (.bool b)) := fun _ _ _ S q => Constant_bool (q _ _ _ rfl S)
def PartOf (C : Cx w cs) (kp : List (Addr × Obj)) (f : SF) (n : SL) (e : Option Expr) (o : Option Int) : Prop :=
  ∀ (Q : Value → Shared → Prop) (h : Heap) (t : Nat), C.St kp f n h → (∀ v h' t', IsPart v o → C.St kp f n h' → Q v (C.at h' t')) → wpAny (model pw w) C.A (evalPart e C.env) Q C.E (C.at h t)
theorem part_none : PartOf C kp f n none none := fun _ _ _ S q => evalPart_none_step (q _ _ _ .none S)
theorem part_int {i : Int} {c : Nat} : PartOf C kp f n (some (.Constant (.int i) c pos)) (some i) := fun _ _ _ S q => evalPart_some_step (wpAny_Constant_int (q _ _ _ (.int _ _) S))
theorem part_neg {i : Int} {c : Nat} : PartOf C kp f n (some (.UnaryOp .USub (.Constant (.int i) c p2) pos)) (some (-i)) := fun _ _ _ S q => evalPart_some_step (UnaryOp_ (wpAny_Constant_int (neg_int (q _ _ _ (.int _ _) S))))
theorem EvX.sliceL {lo hi : Option Int} {l u : Option Expr} {zs : List SV} (hy : lkS y f = some (.val (.ref r))) (hl : LstAt C kp f n r as) (dl : PartOf C kp f n l lo) (du : PartOf C kp f n u hi) (hz : ∀ vs, AllIs as vs → AllIs zs (slicePick vs.toArray lo hi none).toList) (hk : as.length ≤ big) (k : ∀ D, R (.val (.ref D)) ((D, oLst zs) :: n)) (hloc : autoParam (isLoc cs y = true) tR) :
    EvX C kp f n (.Subscript (.Name y p2) (.Slice l u none p3) pos) R := fun _ _ _ S q =>
  Subscript_ (ev_name hy hloc _ _ _ S fun _ h0 t0 e0 S0 => wpAny_Slice (dl _ _ _ S0 fun v1 h1 t1 i1 S1 => du _ _ _ S1 fun v2 h2 t2 i2 S2 => evalPart_none_step (by
    cases e0
    obtain ⟨vs, g2, g3⟩ := hl _ S2
    obtain ⟨m, news, F, _, N, _, add, _⟩ := S2.use
    refine kmk_slice_lit (s := C.at h2 t2) F N g3 i1 i2 rfl (fun D h' F' N' lt => q _ _ _ h' _ (k D) rfl (add h' D _ _ F' N' lt ⟨_, 0, hz vs g2, rfl⟩)) (by with_unfolding_all rfl) (by intro _; with_unfolding_all rfl) (by rw [List.size_toArray, g2.length]; exact small_list hk))))
theorem ev_find {z : Str} {e1 e2 e3 : Expr} {i j : Int} (hy : lkS z f = some (.txt x)) (d1 : Ev C kp f n e1 (.txt y)) (d2 : Ev C kp f n e2 (.num i)) (d3 : Ev C kp f n e3 (.num j)) (hloc : autoParam (isLoc cs z = true) tR) (s1 : autoParam (isStar e1 = false) tR) (s2 : autoParam (isStar e2 = false) tR) (s3 : autoParam (isStar e3 = false) tR)
    (he : ∃ pl, eval (.Call (.Attribute (.Name z p2) "find" p3) [e1, e2, e3] [] pos) C.env = (do
         let ov ← eval (.Name z p2) C.env
         standAt p3.atName
         let (f, first) ← holding [ov] (getMethod ov "find" pl)
         callWith pos f first (backTo pos (starEach [e1, e2, e3] C.env)) []) := by exact ⟨_, rfl⟩) : Ev C kp f n (.Call (.Attribute (.Name z p2) "find" p3) [e1, e2, e3] [] pos) (.num (find4 x y i j)) := fun _ _ _ S q =>
  MethodCall_ (ev_name hy hloc _ _ _ S fun _ h1 t1 ⟨_, _, e0⟩ S1 => by
    subst e0
    with_reducible refine GM.find ?_
    have hst : (backTo pos (starEach [e2, e3] C.env)).any (·.1) = false := by rw [star_not s2, star_not s3]; rfl
    refine callWith_method1 (args_cons (d1 _ _ _ S1 fun _ h5 t5 ⟨_, _, e1⟩ S5 => args_cons (d2 _ _ _ S5 fun _ h6 t6 ⟨_, e2⟩ S6 => args_cons (d3 _ _ _ S6 fun _ h7 t7 ⟨_, e3⟩ S7 => args_nil ?_) (star_not s3)) (star_not s2)) (star_not s1)) (star_not s1) hst
    subst e1 e2 e3
    exact call_find4 (q _ _ _ ⟨_, rfl⟩ S7)) he.choose_spec
end
end
section
open PySem PySem.W PySem.Calls PySem.Spec PyProof PyProof.Rows
noncomputable def PartsOf (st : Addr) : List Value → List (Option (List Nat)) → Prop
  | [], [] => True
  | v :: vs, none :: xs => v = .ref st ∧ PartsOf st vs xs
  | v :: vs, some x :: xs => (∃ t, v = .str ⟨x.toArray⟩ t) ∧ PartsOf st vs xs
  | _, _ => False
theorem item_is (g : Str) (e : Nat) : Txt.item g (e : Int) = ⟨#[g.cps.toList.getD e 0]⟩ := by
  unfold Txt.item Txt.charAt seqIndex?
  have h0 : ¬ (e : Int) < 0 := by lia
  simp only [h0, if_false, Int.toNat_natCast]
  by_cases h : e < g.length
  · have h' : e < g.cps.size := h
    simp [h', List.getD_eq_getElem?_getD, Str.length]
  · have h' : ¬ e < g.cps.size := h
    simp [h', List.getD_eq_getElem?_getD, Str.length]
theorem plus_is : Str.ofString "+" = ⟨#[43]⟩ := by decide +kernel
theorem esc_is : Str.ofString "\\+" = ⟨#[92, 43]⟩ := by decide +kernel
theorem esc_t {g : Str} {e : Nat} (h : Txt.item g (e : Int) = Str.ofString "+") : (Str.ofString "\\+") = ⟨(escM (g.cps.toList.getD e 0)).toArray⟩ := by
  rw [item_is, plus_is] at h
  have : g.cps.toList.getD e 0 = 43 := by injection h with h; injection h with h; injection h
  rw [this, esc_is]; rfl
theorem esc_f {g : Str} {e : Nat} (h : ¬ Txt.item g (e : Int) = Str.ofString "+") : Txt.item g (e : Int) = ⟨(escM (g.cps.toList.getD e 0)).toArray⟩ := by
  rw [item_is, plus_is] at h
  rw [item_is, escM, if_neg (fun e => h (by rw [e]))]
theorem endsM_len (text : List Nat) : ∀ ps : List (Option (List Nat)), ∀ E : List Nat, E.length ≤ text.length + 1 → (ps.foldl (endsStep text) E).length ≤ text.length + 1
  | [], E, h => h
  | none :: ps, E, h => by
    refine endsM_len text ps _ ?_
    unfold endsStep
    exact Nat.le_trans (List.length_filter_le _ _) (by simp)
  | some x :: ps, E, h => by
    refine endsM_len text ps _ ?_
    unfold endsStep
    rw [List.length_map]
    exact Nat.le_trans (List.length_filter_le _ _) h
end
section
open PySem PySem.W PySem.Calls PySem.Spec PyProof PyProof.Rows
section
variable {w : World} {cs : Scope} {C : Cx w cs} {kp : List (Addr × Obj)} {f : SF} {n : SL} {Q : Flow → Shared → Prop} {x y : Str} {pos p2 p3 p4 p5 p6 : Pos} {rest : List Stmt} {α : Type} {R : SV → SL → Prop} {r : Addr} {as : List SV} {a : SV} {v : Value}
theorem boundCall_app' {s : Shared} {A : Around} {E : Value → Shared → Prop} {h₀ : Heap} {L a q : Addr} {m : Str → Option Value} {news : List (Addr × Obj)} {v : Value} {its : Array Value} {k : Nat} {g : Obj → List (Addr × Obj)} {Q : Value → Shared → Prop} (F : Fr h₀ L s.heap m) (N : News h₀ L s.heap news) (hq : s.heap.get? q = some (boundObj "list.append" a)) (U : UpdF a (W.listOf its k) news g) (hsz : its.size ≤ sizeLine)
    (h : ∀ h', Fr h₀ L h' m → News h₀ L h' (g (W.listOf (its.push v) (k + 1))) → Q .none { s with heap := h' }) : wpAny (model pw w) A (call (.ref q) [v]) Q E s := by
  obtain ⟨pre, post, rfl, hg, x, y⟩ := U.split
  have hm := N (a, W.listOf its k) (List.mem_append_right _ (.head _))
  refine call_bound_append hq hm.1 hsz ?_
  have hs : Heap.SameBut a s.heap (s.heap.update a (Obj.mapSeq fun x => x.push v)) := Heap.SameBut.update ..
  have ho' : (s.heap.update a (Obj.mapSeq fun x => x.push v)).get? a = some (W.listOf (its.push v) (k + 1)) := by
    have e := Heap.get?_update_self (Obj.mapSeq fun x => x.push v) hm.1 rfl
    have e2 : Obj.mapSeq (fun x => x.push v) (W.listOf its k) = W.listOf (its.push v) (k + 1) := by simp [Obj.mapSeq]
    rw [← e2]; exact e
  exact h _ (F.change hs hm.2.1 hm.2.2) (hg _ ▸ N.setIn x y hs ho')
theorem EvX.bindApp {D : Addr} (hy : lkS y f = some (.val (.ref D))) (hm : (D, oLst as) ∈ n) (k : ∀ q, R (.val (.ref q)) ((q, oEq (boundObj "list.append" D)) :: n)) (hloc : autoParam (isLoc cs y = true) tR) : EvX C kp f n (.Attribute (.Name y p2) "append" pos) R := fun _ _ _ S q =>
  Attribute_Name_ (ev_name hy hloc _ _ _ S fun _ h1 t1 e0 S1 => by
    cases e0
    obtain ⟨m, news, F, _, N, at', add, _⟩ := S1.use
    obtain ⟨o, h2, us, k1, _, rfl⟩ := at' _ _ hm
    exact bound_list_K (s := C.at h1 t1) F N h2 fun b h' tk F' N' lt => q _ _ _ h' tk (k b) rfl (add h' b _ _ F' N' lt rfl))
theorem g_boundApp {D b : Addr} {e : Expr} (hy : lkS y f = some (.val (.ref b))) (hb0 : (b, oEq (boundObj "list.append" D)) ∈ n) (d : EvX C kp f n e (fun a n' => (b, oEq (boundObj "list.append" D)) ∈ n' ∧ AppE C kp f D Q rest a n')) (hloc : autoParam (isLoc cs y = true) tR) (s1 : autoParam (isStar e = false) tR) (hi : autoParam (interactive C.env = false) tR) :
    G C kp f n Q (.Expr (.Call (.Name y p2) [e] [] p4) pos :: rest) := .mk fun h t S =>
  wpAny_execs_cons (wpAny_Expr (Call_ (ev_name hy hloc _ _ _ S fun _ h1 t1 e0 S1 => by
    cases e0
    obtain ⟨m, news, F, _, N, at', _, _⟩ := S1.use
    obtain ⟨o1, h2, h3⟩ := at' _ _ hb0
    cases h3
    refine callWith_bound (s := C.at h1 t1) N h2 (args_cons (d _ _ _ S1 fun v a n' h5 t5 hr ha S5 => args_nil ?_) (star_not s1)) (star_not s1) rfl
    obtain ⟨hb, i, as, hi', hlen, g⟩ := hr
    obtain ⟨m, news, o, g', F, _, N, hP, hmem, U, _, close⟩ := S5.open hi'
    obtain ⟨us, k, has, rfl⟩ := hP
    obtain ⟨m', news', _, _, N', at'', _, _⟩ := S5.use
    obtain ⟨o3, g4, g5⟩ := at'' _ _ hb
    cases g5
    refine ⟨BoundAt.of N' g4, boundCall_app' (s := C.at h5 t5) F N (N'.get g4) U (by rw [List.size_toArray, has.length]; exact small_list hlen) fun h6 F6 N6 => g.run h6 t5 (close _ _ h6 ⟨us ++ [v], k + 1, has.app ⟨ha, trivial⟩, by simp⟩ F6 N6)⟩) (eval_call ⟨_, _, rfl⟩ _)) hi rfl)
theorem tst_isNotSame {l r' : Expr} {D : Addr} (h1 : Ev C kp f n l (.val (.ref D))) (h2 : Ev C kp f n r' (.val (.ref D))) : Tst C kp f n (.Compare l [.IsNot] [r'] pos) False :=
  tst_cmp h1 h2 (by decide) (by decide) fun u v s Q e1 e2 k => by cases e1; cases e2; exact wpAny_isNot_ref_self (k _ ⟨fun h => Bool.noConfusion h, fun h => h.elim⟩)
theorem tst_isNotTxt {l r' : Expr} {D : Addr} (h1 : Ev C kp f n l (.txt x)) (h2 : Ev C kp f n r' (.val (.ref D))) : Tst C kp f n (.Compare l [.IsNot] [r'] pos) True :=
  tst_cmp h1 h2 (by decide) (by decide) fun u v s Q ⟨_, _, e1⟩ e2 k => by subst e1; cases e2; exact wpAny_isNot_other (by rfl) (by intro x; cases x) (k _ ⟨fun _ => trivial, fun _ => rfl⟩)
theorem g_assert {test : Expr} {msg : Option Expr} {p : Prop} (d : Tst C kp f n test p) (hp : p) (k : G C kp f n Q rest) : G C kp f n Q (.Assert test msg pos :: rest) := .mk fun h t S =>
  wpAny_execs_cons (wpAny_Assert_holds (d _ _ _ S fun b h1 t1 hb S1 => ⟨hb.mpr hp, k.run h1 t1 S1⟩))
end
noncomputable def pv (st : Addr) : Option (List Nat) → SV
  | none => .val (.ref st)
  | some y => sx y
theorem parts_of {st : Addr} : ∀ {xs : List (Option (List Nat))} {vs : List Value}, AllIs (xs.map (pv st)) vs → PartsOf st vs xs
  | [], [], _ => trivial
  | none :: _, _ :: _, h => ⟨h.1, parts_of h.2⟩
  | some _ :: _, _ :: _, h => ⟨h.1.2, parts_of h.2⟩
  | [], _ :: _, h => h.elim
  | _ :: _, [], h => h.elim
theorem of_parts {st : Addr} : ∀ {xs : List (Option (List Nat))} {vs : List Value}, PartsOf st vs xs → (∀ y, some y ∈ xs → y.length ≤ 16) → AllIs (xs.map (pv st)) vs
  | [], [], _, _ => trivial
  | none :: _, _ :: _, h, hl => ⟨h.1, of_parts h.2 fun y hy => hl y (.tail _ hy)⟩
  | some p :: _, _ :: _, h, hl => ⟨⟨by rw [mk_len]; exact Nat.le_trans (hl p (.head _)) (by decide), h.1⟩, of_parts h.2 fun y hy => hl y (.tail _ hy)⟩
  | [], _ :: _, h, _ => h.elim
  | none :: _, [], h, _ => h.elim
  | some _ :: _, [], h, _ => h.elim
end
section
open PySem PySem.W PySem.Calls PySem.Spec PyProof PyProof.Rows
theorem ints_of : ∀ {ns : List Int} {vs : List Value}, AllIs (ns.map .num) vs → IntsAre vs ns
  | [], [], _ => .nil
  | n :: _, _ :: _, h => by
    obtain ⟨⟨u, rfl⟩, h⟩ := h
    exact .cons n u (ints_of h)
  | [], _ :: _, h => h.elim
  | _ :: _, [], h => h.elim
section
variable {w : World} {cs : Scope} {C : Cx w cs} {kp : List (Addr × Obj)} {f : SF} {n : SL} {Q : Flow → Shared → Prop} {x y : Str} {pos p2 p3 p4 p5 p6 : Pos} {rest : List Stmt} {α : Type} {R : SV → SL → Prop} {r : Addr} {as : List SV} {a : SV} {v : Value}
theorem g_forB {it : Expr} {body : List Stmt} {b : Array UInt8} {tb : Tok} {ns : List Int} (d : Ev C kp f n it (.val (.bytes b tb))) (hk : KBw.bInts b = ns) (J : Nat → α → Prop) (fr : Nat → α → SF) (ow : Nat → α → SL) (a₀ : α) (hj : J 0 a₀)
    (turn : ∀ i c z own, ns[i]? = some z → J i c → ∀ Q', (∀ fl s', LPost C (own ++ kp) J fr ow (i + 1) (Seq C Q rest) fl s' → Q' fl s') → G C (own ++ kp) ((x, .num z) :: fr i c) (ow i c) Q' body)
    (done : ∀ c, J ns.length c → G C kp (fr ns.length c) (ow ns.length c) Q rest) (hx : autoParam (isLoc cs x = true) tR) (hs : ∀ y, foldedSetIterable it C.env y = pure y := by exact fun _ => rfl) (ef : autoParam (fr 0 a₀ = f) tR) (en : autoParam (ow 0 a₀ = n) tR) :
    G C kp f n Q (.For (.Name x p2) it body [] pos :: rest) := .mk fun h t S => by
  subst hk
  refine wpAny_execs_cons (For_invV C.s.heap (loc_of hx).1 (par_ok C.hk) (d _ _ _ S fun v h1 t1 e S1 => ?_) hs C.hE)
  refine hide fun X kX => ?_
  cases e; subst ef en
  refine kX ?_
  refine KBw.pyIter_bytes ?_
  refine loopS (Q := Seq C Q rest) (h := h1.push _) J fr ow (fun i => .num ((KBw.bInts b).getD i 0)) a₀ (KBw.walks (prog := pw) (w := w) C.hh h1.objs.size b tb) (fun hb => S1.new.2.2.2 (List.mem_singleton.mp hb)) (fun b hb => List.mem_singleton.mp hb ▸ S1.new.2.2.1) (fun b hb => .inl hb) (fun b hb => List.mem_singleton.mp hb ▸ ⟨S1.new.1, S1.new.2.1⟩) (fun i h st b hb => ?_) ⟨_, Heap.get?_push_size _ rfl, rfl, rfl⟩ (S1.push _) hj (fun i v hi hv => ?_) (fun i c own hi hj => ?_) (fun c h t hj S => (done c (by rw [KBw.ints_length]; exact hj)).run h t (by rw [KBw.ints_length]; exact S))
  · rw [List.mem_singleton.mp hb]; obtain ⟨o, e, _⟩ := st; exact ⟨o, e⟩
  · obtain ⟨c, u, hc, rfl⟩ := hv
    exact ⟨u, by rw [List.getD_eq_getElem?_getD, KBw.ints_get hc]; rfl⟩
  · have hi' : i < (KBw.bInts b).length := by rw [KBw.ints_length]; exact hi
    have e : (KBw.bInts b)[i]? = some ((KBw.bInts b).getD i 0) := by rw [List.getD_eq_getElem?_getD, List.getElem?_eq_getElem hi']; rfl
    exact turn i c _ own e hj
end
section
variable {w : World} {cs : Scope} {md : Bool} {C : CxU w cs md} {kp : List (Addr × Obj)} {f : SF} {n : SL} {Q : Flow → Shared → Prop} {x y : Str} {pos p2 p3 p4 p5 p6 : Pos} {rest : List Stmt} {α : Type} {R : SV → SL → Prop} {r : Addr} {as : List SV} {a : SV} {v : Value}
theorem EvX.bytesOf {e : Expr} {ns : List Int} (d : Ev C kp f n e (.val (.ref r))) (hl : LstAt C kp f n r (ns.map .num)) (hin : KBa.In ns) (hn : ns.length ≤ 16777216) (k : ∀ t, R (.val (.bytes (byteArr ns) t)) n) (hK : autoParam (nsIn (Kx w.params) mainGlobals "bytes" = some none) tK) (hg : autoParam (isGlo cs "bytes" = true) tR) (hs : autoParam (isStar e = false) tR) :
    EvX C kp f n (.Call (.Name "bytes" p2) [e] [] pos) R := fun _ _ _ S q =>
  Call_ (ev_B hK rfl (by decide) hg (by decide) _ _ _ S fun _ h0 t0 e0 S0 => by
    cases e0
    refine PyProof.Rows.callWith_type1 (args_cons (d _ _ _ S0 fun _ h1 t1 e1 S1 => args_nil ?_) (star_not hs)) (star_not hs) rfl
    refine hide fun X kX => ?_
    cases e1
    obtain ⟨vs, h2, h3⟩ := hl _ S1
    obtain ⟨m, news, F, _, N, _, _, same⟩ := S1.use
    refine kX ?_
    exact KBa.make_K (s := C.at h1 t1) F N C.hh h3 (ints_of h2) hin hn fun h' t' k' F' N' _ => q _ _ _ h' k' (k t') rfl (same h' F' N')) (by cases e <;> rfl)
end
section
variable {w : World} {cs : Scope} {C : CxU w cs true} {kp : List (Addr × Obj)} {f : SF} {n : SL} {Q : Flow → Shared → Prop} {x y : Str} {pos p2 p3 p4 p5 p6 : Pos} {rest : List Stmt} {α : Type} {R : SV → SL → Prop} {r : Addr} {as : List SV} {a : SV} {v : Value}
inductive PurKE (C : Cx w cs) (kp : List (Addr × Obj)) (f : SF) (n : SL) (fa : Addr) (vs : List Value) (kw : List (Str × Value)) (R : SV → SL → Prop) : Prop
  | mk (D U : Nat) (P : Heap → Prop) (Rp : Heap → Value → Heap → Prop) (c : PurK w fa vs kw D U P Rp) (hd : C.A.depth + D < recursionLimit) (hu : C.A.units + U < cLine) (hP : ∀ h, C.St kp f n h → P h) (k : ∀ h v h', C.St kp f n h → Rp h v h' → Gives h h' v n R)
theorem EvX.purKw {g nm : Str} {fa : Addr} {e : Expr} {b : Bool} {i : Nat} (d : EvX C kp f n e (fun a n1 => ∀ v, a.Is v → PurKE C kp f n1 fa [v] [(nm, .bool b)] R)) (hg : nsIn (Kx w.params) mainGlobals g = some (some (.ref fa))) (hk : keepIn (Kx w.params) (.ref fa) = true) (hx : autoParam (isGlo cs g = true) tR) (hd : autoParam ((g == ("__debug__" : Str)) = false) tD) (hs : autoParam (isStar e = false) tR)
    (hc : autoParam (eval (Expr.Call (.Name g p2) [e] [⟨some nm, .Constant (.bool b) i p3, p4⟩] pos) C.env = (do let f ← eval (.Name g p2) C.env; callWith pos f [] (backTo pos (starEach [e] C.env)) (backToKw pos (keywordEach [⟨some nm, .Constant (.bool b) i p3, p4⟩] C.env)))) tR) :
    EvX C kp f n (.Call (.Name g p2) [e] [⟨some nm, .Constant (.bool b) i p3, p4⟩] pos) R := fun _ _ _ S q => by
  rw [hc]
  refine wpAny_bind (ev_K hg hx hd _ _ _ S fun _ h0 t0 e0 S0 => ?_)
  refine hide fun X kX => ?_
  cases e0
  refine kX ?_
  refine callWith_KW (C_in C).1 hk rfl (args_cons (d _ _ _ S0 fun v a n1 h1 t1 hr ha S1 => args_nil ?_) (star_not hs)) (by rw [star_not hs]; rfl) (star_not hs)
  refine PyProof.Rows.evalAll_cons (wpAny_bind (Constant_bool (wpAny_bind (wpAny_standAt (wpAny_pure (PyProof.Rows.evalAll_nil ?_))))))
  obtain ⟨D, U, P, Rp, c, hd, hu, hP, k⟩ := hr v ha
  obtain ⟨m, X, _⟩ := S1.site
  refine ⟨(C_in C).1.keeps X.fr.keep, pur_use c X hd hu (hP h1 S1) fun v h' t' hs F' hr => ?_⟩
  obtain ⟨a, new, ha, hn, hR⟩ := k h1 v h' S1 hr
  exact q v a _ h' t' hR ha (S1.adds (m := m) (fun a o _ e => e) hs hn)
theorem ev_subB {e : Expr} {B : Array UInt8} {u : Tok} {ks : List Int} {k : Int} (hK : nsIn (Kx w.params) mainGlobals x = some (some (.bytes B u))) (hB : KBw.bInts B = ks) (d : Ev C kp f n e (.num k)) (h : 0 ≤ k ∧ k < ks.length) (hn : ks.length ≤ 1099511627776) (hx : autoParam (isGlo cs x = true) tR) (hd : autoParam ((x == ("__debug__" : Str)) = false) tD) (hs : autoParam (isSlice e = false) tR) :
    Ev C kp f n (.Subscript (.Name x p2) e pos) (.num (ks.getD k.toNat 0)) := fun _ _ _ S q =>
  Subscript_ (ev_K hK hx hd _ _ _ S fun _ h1 t1 e0 S1 => d _ _ _ S1 fun _ h2 t2 ⟨_, e2⟩ S2 => by
    cases e0; subst e2
    exact KBw.item_K hB hn h.1 h.2 (fun t' tk _ _ => q _ _ tk ⟨t', rfl⟩ S2) (sub_plain hs _ _))
end
end
section
open PySem PySem.W PySem.Calls PySem.Spec PyProof PyProof.Rows
inductive oCell (a : SV) (o : Obj) : Prop
  | mk (v : Value) (ha : a.Is v) (e : o.data = .cell (some v))
noncomputable def oCell0 (o : Obj) : Prop := o.data = .cell none
noncomputable def isCl (cs : Scope) (x : Str) : Bool := cs.names.lookup x == some .cell && !(x == ("__debug__" : Str))
theorem cl_of {cs : Scope} {x : Str} (h : isCl cs x = true) : cs.names.lookup x = some .cell ∧ (x == ("__debug__" : Str)) = false := by
  unfold isCl at h
  rw [Bool.and_eq_true] at h
  exact ⟨beq_iff_eq.mp h.1, by simpa using h.2⟩
noncomputable def CellsIn (cl : List (Str × Addr)) (n : SL) : SF → Prop
  | [] => True
  | p :: g => (∃ c, cl.lookup p.1 = some c ∧ (c, oCell p.2) ∈ n) ∧ CellsIn cl n g
theorem CellsIn.at {cl : List (Str × Addr)} {n : SL} {x : Str} {a : SV} : ∀ {g : SF}, CellsIn cl n g → lkS x g = some a → ∃ c, cl.lookup x = some c ∧ (c, oCell a) ∈ n
  | [], _, h => nomatch h
  | (k, b) :: g, H, h => by
    unfold lkS at h
    by_cases q : x = k
    · rw [if_pos q] at h; cases h; exact q ▸ H.1
    · rw [if_neg q] at h; exact CellsIn.at H.2 h
theorem lkS_app {x : Str} : ∀ {g f : SF}, lkS x (g ++ f) = match lkS x g with | some a => some a | none => lkS x f
  | [], _ => rfl
  | (k, b) :: g, f => by
    show (if x = k then some b else lkS x (g ++ f)) = match (if x = k then some b else lkS x g) with | some a => some a | none => lkS x f
    by_cases q : x = k
    · rw [if_pos q, if_pos q]
    · rw [if_neg q, if_neg q]; exact lkS_app
theorem lkS_mem {x : Str} {a : SV} : ∀ {g : SF}, lkS x g = some a → (x, a) ∈ g
  | [], h => nomatch h
  | (k, b) :: g, h => by
    unfold lkS at h
    by_cases q : x = k
    · rw [if_pos q] at h; cases h; rw [q]; exact .head _
    · rw [if_neg q] at h; exact .tail _ (lkS_mem h)
theorem storeE_C {M : Model} {A : Around} {env : Env} {E : Value → Shared → Prop} {s : Shared} {h₀ : Heap} {L : Addr} {m : Str → Option Value} {x : Str} {v : Value} {Q : Unit → Shared → Prop} {news : List (Addr × Obj)} {g : Obj → List (Addr × Obj)} {c : Addr} {o : Obj} {v₀ : Option Value} (F : Fr h₀ L s.heap m) (N : News h₀ L s.heap news) (hc : env.cells.lookup x = some c) (U : UpdF c o news g) (hd : o.data = .cell v₀)
    (h : ∀ h' o', Fr h₀ L h' m → News h₀ L h' (g o') → o'.data = .cell (some v) → Q () { s with heap := h' })
    (hk : env.scope.kind = .function) (hx : env.kindOf x = some .cell) : wpAny M A (storeName env x v) Q E s := by
  obtain ⟨own, rest, rfl, hg, h1, h2⟩ := U.split
  have hmem := N (c, o) (List.mem_append_right _ (.head _))
  refine wpAny_storeName_cell hk hx hc ⟨o, hmem.1, hd⟩ fun h' hv hs => ?_
  obtain ⟨o', ho', hd'⟩ := hv
  refine h h' o' ⟨F.ns.sameBut hs (Ne.symm hmem.2.1), fun b ob e => (hs.2 b (fun q => ?_)).trans (F.keep b ob e), F.above⟩ (hg o' ▸ N.setAt h1 h2 hs ho') hd'
  rw [q, hmem.2.2] at e; cases e
section
variable {w : World} {cs : Scope} {md : Bool} {C : CxU w cs md} {kp : List (Addr × Obj)} {f : SF} {n : SL} {x : Str} {pos : Pos} {a : SV}
theorem ev_cell {c : Addr} (hc : C.cl.lookup x = some c) (hm : (c, oCell a) ∈ n) (hx : isCl cs x = true) : Ev C kp f n (.Name x pos) a := fun _ h t S q => by
  obtain ⟨m, news, F, _, N, at', _, _⟩ := S.use
  obtain ⟨o, h1, v, ha, e⟩ := at' _ _ hm
  exact wpAny_Name (wpAny_loadName_cell (env := C.env) (s := C.at h t) C.hk (cl_of hx).1 hc ⟨o, (N _ h1).1, e⟩ (q _ _ _ ha S)) (cl_of hx).2
end
section
variable {w : World} {cs : Scope} {C : Cx w cs} {kp : List (Addr × Obj)} {f g : SF} {n : SL} {Q : Flow → Shared → Prop} {x y : Str} {pos p2 p3 p4 p5 p6 : Pos} {rest : List Stmt} {α : Type} {R : SV → SL → Prop} {r : Addr} {as : List SV} {a : SV} {v : Value}
theorem orc_cells (hc : CellsIn C.cl n g) (hg : autoParam (g.all (fun p => isCl cs p.1) = true) tR) (hf : autoParam (f.all (fun p => isLoc cs p.1) = true) tR) : Orc true w cs (g ++ f) C.A C.env C.E C.s (C.St kp f n) := ⟨fun x a pos hx hv => by
  rw [lkS_app] at hv
  cases e : lkS x g with
  | some b =>
    rw [e] at hv; cases hv
    obtain ⟨c, h1, h2⟩ := hc.at e
    exact ev_cell h1 h2 (List.all_eq_true.mp hg _ (lkS_mem e))
  | none =>
    rw [e] at hv
    exact ev_name hv (List.all_eq_true.mp hf _ (lkS_mem hv)), fun hg _ => ev_B no_len rfl (by decide) hg (by decide), St_sl⟩
theorem g_setC {e : Expr} {c : Addr} {i : Nat} {P : Obj → Prop} (hc : C.cl.lookup x = some c) (hP : ∀ o, P o → ∃ v, o.data = .cell v) (d : EvX C kp f n e (fun a n' => n'[i]? = some (c, P) ∧ G C kp f (n'.set i (c, oCell a)) Q rest)) (hx : autoParam (isCl cs x = true) tR) (hs : swapsWith e (some (Expr.Name x p2)) (Pos.line pos) C.env = pure false := by exact swaps_not rfl) :
    G C kp f n Q (.Assign [.Name x p2] e pos :: rest) := .mk fun h t S =>
  wpAny_execs_cons (wpAny_Assign_Name (d _ h t S fun v a n' h1 t1 hr ha S1 => by
    obtain ⟨m, news, o, g, F, _, N, ho, hm, U, _, close⟩ := S1.open hr.1
    obtain ⟨v0, hd⟩ := hP o ho
    exact storeE_C (env := C.env) (s := C.at h1 t1) F N hc U hd (fun h2 o2 F2 N2 e2 => hr.2.run h2 _ (close (oCell a) o2 h2 ⟨v, ha, e2⟩ F2 N2)) C.hk (cl_of hx).1) hs)
end
end
section
open PySem PySem.W PySem.Calls PySem.Spec PyProof PyProof.Rows PyProof.Rows.LCg PyProof.Rows.LCt
noncomputable def CxU.comp {w : World} {cs : Scope} {md : Bool} (C : CxU w cs md) (scope : Scope) (cl : List (Str × Addr)) (Ca : Addr) (E' : Value → Shared → Prop) (m : Str → Option Value) (hk : scope.kind = .function) : CxU w (relabel scope C.env) false :=
  { A := C.A, E := E', s := C.s, lo := Ca, fl := C.L, xf := m, ql := C.ql, fu := none, ccd := C.ccd, cl := cl, hh := C.hh, hk := hk, hP := fun e => (nomatch e), site := C.site }
inductive SrcI (w : World) (A : Around) (h₀ : Heap) (L : Addr) (kp : List (Addr × Obj)) (V : Nat → SV) (k : Nat) (xv : Value) (s : Shared) : Prop
  | mk (I : Addr) (fp : List Addr) (P : Nat → Value → Prop) (St : Nat → Heap → Prop) (S : List (Addr × Obj) → Prop) (W : Walks pw w A I fp [I] k P St) (hIo : ∀ i h, St i h → ∃ o, h.get? I = some o)
    (hSt : ∀ i h h' o nw, St i h → h.get? I = some o → h'.get? I = some o → (∀ b o, h₀.get? b = some o → h'.get? b = some o) → News h₀ L h' nw → S nw → St i h') (hV : ∀ i v, i < k → P i v → (V i).Is v) (hS : ∀ nw, S (nw ++ kp)) (hI : I = s.heap.objs.size) (hfp : ∀ b ∈ fp, b ≤ I) (hk : k ≤ sizeLine)
    (go : ∀ (Q : Value → Shared → Prop) (E : Value → Shared → Prop), (∀ h, (∀ b o, s.heap.get? b = some o → h.get? b = some o) → h.objs.size = I + 1 → St 0 h → Q (.ref I) { s with heap := h }) → wpAny (model pw w) A (pyIter xv) Q E s)
section
variable {w : World} {A : Around} {h₀ : Heap} {L : Addr} {s : Shared} {kp : List (Addr × Obj)}
theorem src_list {ax : Addr} {as : List SV} {vs : List Value} (hh : A.handled = none) (hl : s.heap.IsList ax vs.toArray) (hS : ∀ nw, SrcAt h₀ ax vs.toArray (nw ++ kp)) (has : AllIs as vs) (hk : as.length ≤ big) : SrcI w A h₀ L kp (fun i => (as[i]?).getD (.val .none)) as.length (.ref ax) s := by
  have hlt : ax < s.heap.objs.size := by obtain ⟨_, e, _⟩ := hl; exact Heap.lt_size e
  have hsz : vs.toArray.size = as.length := by rw [List.size_toArray, has.length]
  refine ⟨s.heap.objs.size, _, _, _, SrcAt h₀ ax vs.toArray, hsz ▸ Walks.list (prog := pw) (w := w) hh s.heap.objs.size ax (Nat.ne_of_lt hlt) vs.toArray, (fun i h st => by obtain ⟨o, e, _⟩ := st.1; exact ⟨o, e⟩), list_st, fun i v hi hv => ?_, hS, rfl, fun b hb => ?_, small_list hk, fun Q E q => wpAny_pyIter_list hl (q _ (fun b o e => Heap.get?_push_of_some _ e) (Heap.size_push _ _) ⟨⟨_, Heap.get?_push_size _ rfl, rfl, rfl⟩, hl.push _⟩)⟩
  · obtain ⟨u, h1, h2⟩ := has.get (List.getElem?_eq_getElem hi)
    rw [List.getElem?_eq_getElem hi]
    have e : vs.toArray[i]? = some v := hv
    rw [List.getElem?_toArray, h1] at e
    exact Option.some.inj e ▸ h2
  · rcases List.mem_cons.mp hb with rfl | hb
    · exact Nat.le_refl _
    · exact List.mem_singleton.mp hb ▸ Nat.le_of_lt hlt
theorem src_range {r : Addr} {k : Nat} {t u v : Tok} (hh : A.handled = none) (hr : IsRange s.heap r 0 (k : Int) 1 t u v) (hk : k ≤ 1000) : SrcI w A h₀ L kp (fun i => .num i) k (.ref r) s := by
  have hn : Builtin.Range.rangeSize 0 (k : Int) 1 = ((k : Nat) : Int) := by rw [rangeSize_nat]; simp
  refine ⟨s.heap.objs.size, _, _, _, fun _ => True, range_walks (prog := pw) (w := w) hh 0 k, fun i h st => ⟨_, st⟩, range_st, fun i v hi hv => ?_, fun _ => trivial, rfl, fun b hb => List.mem_singleton.mp hb ▸ Nat.le_refl _, by rw [sizeLine_eq]; lia, fun Q E q => wpAny_pyIter_range hr (small_one (by decide) (by decide) (by lia) (by lia)) (q _ (fun b o e => Heap.get?_push_of_some _ e) (Heap.size_push _ _) (by show IsRangeIter _ _ _ _ _; rw [hn]; simpa using Heap.get?_push_size _ rfl))⟩
  obtain ⟨t, e⟩ := hv
  exact ⟨t, by rw [e, Int.zero_add]⟩
theorem src_bytes {b : Array UInt8} {tb : Tok} {ns : List Int} (hh : A.handled = none) (hb : KBw.bInts b = ns) (hk : ns.length ≤ big) : SrcI w A h₀ L kp (fun i => .num (ns.getD i 0)) ns.length (.bytes b tb) s := by
  subst hb
  rw [KBw.ints_length] at hk ⊢
  refine ⟨s.heap.objs.size, _, _, _, fun _ => True, KBw.walks (prog := pw) (w := w) hh s.heap.objs.size b tb, fun i h st => (by obtain ⟨o, e, _⟩ := st; exact ⟨o, e⟩), fun i h h' o nw st e e' _ _ _ => ?_, fun i v hi hv => ?_, fun _ => trivial, rfl, fun b hb => List.mem_singleton.mp hb ▸ Nat.le_refl _, small_list hk, fun Q E q => KBw.pyIter_bytes (q _ (fun b o e => Heap.get?_push_of_some _ e) (Heap.size_push _ _) ⟨_, Heap.get?_push_size _ rfl, rfl, rfl⟩)⟩
  · obtain ⟨o', e1, r⟩ := st
    rw [e] at e1; cases e1
    exact ⟨_, e', r⟩
  · obtain ⟨c, u, hc, rfl⟩ := hv
    exact ⟨u, by rw [List.getD_eq_getElem?_getD, KBw.ints_get hc]; rfl⟩
end
section
variable {w : World} {cs : Scope} {md : Bool} {C : CxU w cs md} {kp : List (Addr × Obj)} {f g : SF} {n : SL} {x y : Str} {pos p2 p3 p4 p5 p6 : Pos} {R : SV → SL → Prop} {r : Addr} {as : List SV} {a : SV} {v : Value}
def Src (C : CxU w cs md) (kp : List (Addr × Obj)) (f : SF) (n : SL) (a : SV) (V : Nat → SV) (k : Nat) (n0 : SL) (back : SL → SL) : Prop :=
  ∀ v h t, a.Is v → C.St kp f n h → ∃ kp1, C.St kp1 f n0 h ∧ SrcI w C.A C.s.heap C.L kp1 V k v (C.at h t) ∧ ∀ n' h', C.St kp1 f n' h' → C.St kp f (back n') h'
theorem Src.own {P : Obj → Prop} (hP : ∀ o, P o → oLst as o) (hk : as.length ≤ big) : Src C kp f ((r, P) :: n) (.val (.ref r)) (fun i => (as[i]?).getD (.val .none)) as.length n (fun n' => (r, P) :: n') := fun v h t ha S => by
  cases ha
  obtain ⟨h1, h2, o, ho, hg, S'⟩ := S.freeze
  obtain ⟨vs, k, has, e⟩ := hP o ho
  have hd : o.cls = .type "list" ∧ ∃ k, o.data = .seq vs.toArray k := by rw [e]; exact ⟨rfl, k, rfl⟩
  exact ⟨_, S', src_list C.hh ⟨o, hg, hd⟩ (fun nw => .inr ⟨o, List.mem_append_right _ (.head _), hd⟩) has hk, fun n' h' S2 => S2.thaw ho h2⟩
inductive oRng (a b : Int) (o : Obj) : Prop
  | mk (t u v : Tok) (e : o = { cls := .type "range", data := .fields #[.int a t, .int b u, .int 1 v] })
theorem Src.range {k : Nat} (hk : k ≤ 1000) : Src C kp f ((r, oRng 0 (k : Int)) :: n) (.val (.ref r)) (fun i => .num i) k n id := fun v h t ha S => by
  cases ha
  obtain ⟨o, h2, ⟨t, u, z, rfl⟩, _⟩ := S.at' (.head _)
  exact ⟨_, S.pick (.drop (l := [_])), src_range C.hh h2 hk, fun n' h' S2 => S2⟩
theorem Src.bytes {b : Array UInt8} {tb : Tok} {ns : List Int} (hb : KBw.bInts b = ns) (hk : ns.length ≤ big) : Src C kp f n (.val (.bytes b tb)) (fun i => .num (ns.getD i 0)) ns.length n id := fun v h t ha S => by
  cases ha
  exact ⟨_, S, src_bytes C.hh hb hk, fun n' h' S2 => S2⟩
theorem EvX.range1 {e : Expr} {k : Int} (d : Ev C kp f n e (.num k)) (q : ∀ r, R (.val (.ref r)) ((r, oRng 0 k) :: n)) (hgl : autoParam (isGlo cs "range" = true) tR) (hs : autoParam (isStar e = false) tR) : EvX C kp f n (.Call (.Name "range" p3) [e] [] pos) R := fun _ _ _ S k => by
  refine Call_ (ev_B no_range rfl (by decide) hgl (by decide) _ _ _ S fun _ h0 t0 e0 S0 => ?_) (by cases e <;> rfl)
  refine hide fun X kX => ?_
  cases e0
  refine kX (PySem.Pv.callWith_type1 (args_cons (d _ _ _ S0 fun _ h1 t1 ⟨u, e1⟩ S1 => args_nil ?_) (star_not hs)) (star_not hs) rfl)
  subst e1
  obtain ⟨m, news, F, _, N, _, add, _⟩ := S1.use
  exact call_range_1 (k _ _ _ _ _ (q _) rfl (add _ _ _ (oRng 0 _) (F.push _) (N.push F _) (fun p hp => Heap.lt_size (N p hp).1) ⟨_, _, _, rfl⟩))
inductive TI {α : Type} (J : Nat → α → Prop) (bs : Nat → α → List SV) (ow : Nat → α → SL) (kp : List (Addr × Obj)) (i : Nat) (ys : List Value) (nw : List (Addr × Obj)) : Prop
  | mk (a : α) (hj : J i a) (hy : AllIs (bs i a) ys) (K : Conc (ow i a) nw) (nd : ((ow i a).map (·.1)).Nodup) (off : ∀ p ∈ kp, p.1 ∉ (ow i a).map (·.1))
theorem turn_in {h₀ h : Heap} {L I Ca D : Addr} {xm : XM} {oI oC oD : Obj} {m : Str → Option Value} {nw : List (Addr × Obj)} (R : FrR xm f m) (K : Conc n nw) (nd : (n.map (·.1)).Nodup) (hoff : ∀ p ∈ kp, p.1 ∉ n.map (·.1)) (F : Fr h₀ L h m) (N : News h₀ L h ((I, oI) :: (Ca, oC) :: (D, oD) :: (nw ++ kp))) (off : Off3 I Ca D (nw ++ kp)) :
    StS h₀ L (some m) ((I, oI) :: (Ca, oC) :: (D, oD) :: kp) f n h := ⟨⟨m, F, R.nm, fun _ e => Option.some.inj e⟩, ⟨nw, fun p hp => N p (mem_mid' (a := nw) (b := [(I, oI), (Ca, oC), (D, oD)]) hp), K⟩, nd, fun p hp hm => by
  rcases List.mem_append.mp (show p ∈ [(I, oI), (Ca, oC), (D, oD)] ++ kp from hp) with hp | hp
  · rw [K.addrs] at hm
    obtain ⟨q, hq, e⟩ := List.mem_map.mp hm
    have z := off.mem q (List.mem_append_left _ hq)
    rcases List.mem_cons.mp hp with rfl | hp
    · exact z.1 e
    · rcases List.mem_cons.mp hp with rfl | hp
      · exact z.2.1 e
      · rw [List.mem_singleton.mp hp] at e; exact z.2.2 e
  · exact hoff p hp hm⟩
theorem turn_out {h₀ h' : Heap} {L I Ca D : Addr} {oI oC oD : Obj} {m : Str → Option Value} {nw0 : List (Addr × Obj)} {s₁ : Shared} {t' : Nat} {S : List (Addr × Obj) → Prop} {rest : Value → List (Addr × Obj) → Prop} {y : Value}
    (hS : ∀ nw, S (nw ++ kp)) (off : Off3 I Ca D (nw0 ++ kp)) (S2 : StS h₀ L (some m) ((I, oI) :: (Ca, oC) :: (D, oD) :: kp) f n h') (k : ∀ nw, Conc n nw → (n.map (·.1)).Nodup → (∀ p ∈ kp, p.1 ∉ n.map (·.1)) → rest y (nw ++ kp)) :
    CompEnd h₀ L m s₁ I oI Ca oC D oD S rest y { s₁ with heap := h', toks := t' } := by
  obtain ⟨m', F, R⟩ := S2.fr
  obtain rfl : m' = m := R.ex _ rfl
  obtain ⟨nw, N, K⟩ := S2.nw
  refine CompEnd.intro F (all := nw ++ ([(I, oI), (Ca, oC), (D, oD)] ++ kp)) N (nw ++ kp) (fun p hp => mem_mid' (a := [(I, oI), (Ca, oC), (D, oD)]) hp) (Off3.of fun p hp => ?_) (hS nw) (k nw K S2.nd fun p hp => S2.off p (.tail _ (.tail _ (.tail _ hp))))
  rcases List.mem_append.mp hp with hp | hp
  · have z : p.1 ∈ n.map (·.1) := by rw [K.addrs]; exact List.mem_map.mpr ⟨p, hp, rfl⟩
    exact ⟨fun e => S2.off _ (.head _) (e ▸ z), fun e => S2.off _ (.tail _ (.head _)) (e ▸ z), fun e => S2.off _ (.tail _ (.tail _ (.head _))) (e ▸ z)⟩
  · exact off.mem p (List.mem_append_right _ hp)
structure TurnC {cs' : Scope} (C : CxU w cs md) (C' : CxU w cs' false) (kp' : List (Addr × Obj)) (f : SF) (cl : List (Str × Addr)) (x : Str) (a : SV) (g : SF) : Prop where
  hA : C'.A = C.A
  hs : C'.s = C.s
  orc : ∀ n, CellsIn cl n g → Orc true w cs' ((x, a) :: g) C'.A C'.env C'.E C'.s (C'.St kp' f n)
theorem turn_of {scope : Scope} {cl : List (Str × Addr)} {Ca : Addr} {E' : Value → Shared → Prop} {m m₂ : Str → Option Value} {hk : scope.kind = .function} {kp' : List (Addr × Obj)} {oC : Obj} (hm : (Ca, oC) ∈ kp') (ho : NsObj oC m₂) (hv : m₂ x = some v) (ha : a.Is v) (hx : isLoc (relabel scope C.env) x = true) (hg : g.all (fun p => isCl (relabel scope C.env) p.1) = true) :
    TurnC C (C.comp scope cl Ca E' m hk) kp' f cl x a g := ⟨rfl, rfl, fun n hc => ⟨fun z b pos hz hb Q h t S q => by
    unfold lkS at hb
    by_cases e : z = x
    · rw [if_pos e] at hb
      cases hb
      subst e
      have hl := loc_of hx
      obtain ⟨nw, N, _⟩ := S.nw
      exact wpAny_Name (wpAny_loadName_local (env := (C.comp scope cl Ca E' m hk).env) (s := { C.s with heap := h, toks := t }) hk hl.1 (ho.ns (N _ (List.mem_append_right _ hm)).1) hv (q _ _ _ ha S)) hl.2
    · rw [if_neg e] at hb
      obtain ⟨c, h1, h2⟩ := hc.at hb
      exact ev_cell (C := C.comp scope cl Ca E' m hk) h1 h2 (List.all_eq_true.mp hg _ (lkS_mem hb)) Q h t S q, fun hgl pos => ev_B no_len rfl (by decide) hgl (by decide), St_sl⟩⟩
inductive TPost {α : Type} (J : Nat → α → Prop) (bs : Nat → α → List SV) (ow : Nat → α → SL) (i : Nat) (a : α) (b : SV) (n' : SL) : Prop
  | mk (a' : α) (hj : J (i + 1) a') (hp : Pick (ow (i + 1) a') n') (hb : bs (i + 1) a' = bs i a ++ [b])
section
variable {α : Type} {J : Nat → α → Prop} {bs : Nat → α → List SV} {ow : Nat → α → SL}
theorem restUX {elt : Expr} {scope : Scope} {cl : List (Str × Addr)} {hk : scope.kind = .function} {m : Str → Option Value} {kp1 : List (Addr × Obj)} {V : Nat → SV} {k : Nat} {S : List (Addr × Obj) → Prop} {P : Nat → Value → Prop} {Fin : List Value → List (Addr × Obj) → Prop} {h1 : Heap} {t1 : Nat} (R : FrR C.xm f m) (hS : ∀ nw, S (nw ++ kp1)) (hV : ∀ i v, i < k → P i v → (V i).Is v)
    (hx : isLoc (relabel scope C.env) x = true) (hg : g.all (fun p => isCl (relabel scope C.env) p.1) = true)
    (step : ∀ i a (C' : CxU w (relabel scope C.env) false) kp', i < k → J i a → TurnC C C' kp' f cl x (V i) g → EvX C' kp' f (ow i a) elt (TPost J bs ow i a)) (fin : ∀ ys nw, TI J bs ow kp1 k ys nw → Fin ys (nw ++ kp1)) :
    ∀ j i ys nw, i + j = k → TI J bs ow kp1 i ys nw → CompRest pw w C.A C.s.heap C.L m C.env elt x scope cl { C.s with heap := h1, toks := t1 } S P Fin j i ys (nw ++ kp1)
  | 0, i, ys, nw, e, T => CompRest.zero (fin ys nw (by rw [← e]; exact T))
  | j + 1, i, ys, nw, e, ⟨a, hj, hy, K, nd, hoff⟩ => by
    have hi : i < k := by rw [← e]; exact Nat.lt_add_of_pos_right (Nat.succ_pos j)
    refine CompRest.succ fun v I oI Ca oC D m₂ h tk E' hP hC hv F N off ne => ?_
    refine step i a (C.comp scope cl Ca E' m hk) _ hi hj (turn_of (.tail _ (.head _)) hC hv (hV i v hi hP) hx hg) _ h tk (turn_in (oI := oI) (oC := oC) (oD := lst ys) R K nd hoff F N off) fun u b n' h' t' ⟨a', hj', hp, hb⟩ hu S' => ?_
    exact turn_out hS off (S'.pick hp) fun nw' K' nd' off' => restUX (hk := hk) R hS hV hx hg step fin j (i + 1) _ nw' (by rw [← e]; exact Nat.succ_add_eq_add_succ i j) ⟨a', hj', by rw [hb]; exact hy.app ⟨hu, trivial⟩, K', nd', off'⟩
theorem restTX {ct elt : Expr} {scope : Scope} {cl : List (Str × Addr)} {hk : scope.kind = .function} {m : Str → Option Value} {kp1 : List (Addr × Obj)} {V : Nat → SV} {k : Nat} {S : List (Addr × Obj) → Prop} {P : Nat → Value → Prop} {Fin : List Value → List (Addr × Obj) → Prop} {h1 : Heap} {t1 : Nat} (R : FrR C.xm f m) (hS : ∀ nw, S (nw ++ kp1)) (hV : ∀ i v, i < k → P i v → (V i).Is v)
    (hx : isLoc (relabel scope C.env) x = true) (hg : g.all (fun p => isCl (relabel scope C.env) p.1) = true)
    (step : ∀ i a (C' : CxU w (relabel scope C.env) false) kp', i < k → J i a → TurnC C C' kp' f cl x (V i) g → ∃ p, Tst C' kp' f (ow i a) ct p ∧ (p → EvX C' kp' f (ow i a) elt (TPost J bs ow i a)) ∧ (¬ p → ∃ a', J (i + 1) a' ∧ Pick (ow (i + 1) a') (ow i a) ∧ bs (i + 1) a' = bs i a)) (fin : ∀ ys nw, TI J bs ow kp1 k ys nw → Fin ys (nw ++ kp1)) :
    ∀ j i ys nw, i + j = k → TI J bs ow kp1 i ys nw → CompRestT pw w C.A C.s.heap C.L m C.env ct elt x scope cl { C.s with heap := h1, toks := t1 } S P Fin j i ys (nw ++ kp1)
  | 0, i, ys, nw, e, T => CompRestT.zero (fin ys nw (by rw [← e]; exact T))
  | j + 1, i, ys, nw, e, ⟨a, hj, hy, K, nd, hoff⟩ => by
    have hi : i < k := by rw [← e]; exact Nat.lt_add_of_pos_right (Nat.succ_pos j)
    refine CompRestT.succ fun v I oI Ca oC D m₂ h tk E' hP hC hv F N off ne => ?_
    obtain ⟨p, dt, k1, k2⟩ := step i a (C.comp scope cl Ca E' m hk) ((I, oI) :: (Ca, oC) :: (D, lst ys) :: kp1) hi hj (turn_of (.tail _ (.head _)) hC hv (hV i v hi hP) hx hg)
    refine dt _ h tk (turn_in (oI := oI) (oC := oC) (oD := lst ys) R K nd hoff F N off) fun b h3 t3 hb S3 => ?_
    cases b with
    | true =>
      rw [if_pos rfl]
      exact k1 (hb.mp rfl) _ h3 t3 S3 fun u b n' h' t' ⟨a', hj', hp, hb⟩ hu S' => turn_out hS off (S'.pick hp) fun nw' K' nd' off' => restTX (hk := hk) R hS hV hx hg step fin j (i + 1) _ nw' (by rw [← e]; exact Nat.succ_add_eq_add_succ i j) ⟨a', hj', by rw [hb]; exact hy.app ⟨hu, trivial⟩, K', nd', off'⟩
    | false =>
      rw [if_neg Bool.false_ne_true]
      obtain ⟨a', hj', hp, hb'⟩ := k2 fun hp => Bool.false_ne_true (hb.mpr hp)
      exact turn_out hS off (S3.pick hp) fun nw' K' nd' off' => restTX (hk := hk) R hS hV hx hg step fin j (i + 1) _ nw' (by rw [← e]; exact Nat.succ_add_eq_add_succ i j) ⟨a', hj', by rw [hb']; exact hy, K', nd', off'⟩
end
end
end
section
open PySem PySem.W PySem.Calls PySem.Spec PyProof PyProof.Rows PyProof.Rows.LCg PyProof.Rows.LCt
section
variable {w : World} {cs : Scope} {md : Bool} {C : CxU w cs md} {kp : List (Addr × Obj)} {f g : SF} {n : SL} {x y : Str} {px pos p2 p3 p4 p5 p6 : Pos} {R : SV → SL → Prop} {r : Addr} {as : List SV} {a : SV} {v : Value} {scope : Scope} {cl : List (Str × Addr)}
inductive CompE (C : CxU w cs md) (kp : List (Addr × Obj)) (f : SF) (elt : Expr) (x : Str) (scope : Scope) (cl : List (Str × Addr)) (g : SF) (R : SV → SL → Prop) (a : SV) (n : SL) : Prop
  | mk {α : Type} (J : Nat → α → Prop) (V : Nat → SV) (k : Nat) (n0 : SL) (back : SL → SL) (bs : Nat → α → List SV) (ow : Nat → α → SL) (a₀ : α) (hj : J 0 a₀) (src : Src C kp f n a V k n0 back) (p0 : Pick (ow 0 a₀) n0) (b0 : bs 0 a₀ = [])
    (step : ∀ i a (C' : CxU w (relabel scope C.env) false) kp', i < k → J i a → TurnC C C' kp' f cl x (V i) g → EvX C' kp' f (ow i a) elt (TPost J bs ow i a)) (fin : ∀ a, J k a → ∀ D, R (.val (.ref D)) (back ((D, oLst (bs k a)) :: ow k a)))
inductive CompTE (C : CxU w cs md) (kp : List (Addr × Obj)) (f : SF) (ct elt : Expr) (x : Str) (scope : Scope) (cl : List (Str × Addr)) (g : SF) (R : SV → SL → Prop) (a : SV) (n : SL) : Prop
  | mk {α : Type} (J : Nat → α → Prop) (V : Nat → SV) (k : Nat) (n0 : SL) (back : SL → SL) (bs : Nat → α → List SV) (ow : Nat → α → SL) (a₀ : α) (hj : J 0 a₀) (src : Src C kp f n a V k n0 back) (p0 : Pick (ow 0 a₀) n0) (b0 : bs 0 a₀ = [])
    (step : ∀ i a (C' : CxU w (relabel scope C.env) false) kp', i < k → J i a → TurnC C C' kp' f cl x (V i) g → ∃ p, Tst C' kp' f (ow i a) ct p ∧ (p → EvX C' kp' f (ow i a) elt (TPost J bs ow i a)) ∧ (¬ p → ∃ a', J (i + 1) a' ∧ Pick (ow (i + 1) a') (ow i a) ∧ bs (i + 1) a' = bs i a)) (fin : ∀ a, J k a → ∀ D, R (.val (.ref D)) (back ((D, oLst (bs k a)) :: ow k a)))
abbrev TPost1 (bs : Nat → List SV) (ow : Nat → SL) (i : Nat) (b : SV) (n' : SL) : Prop := Pick (ow (i + 1)) n' ∧ bs (i + 1) = bs i ++ [b]
theorem EvX.weak {e : Expr} {R' : SV → SL → Prop} (d : EvX C kp f n e R) (h : ∀ a n', R a n' → R' a n') : EvX C kp f n e R' := fun Q hh t S q => d Q hh t S fun v a n' h' t' hr ha S' => q v a n' h' t' (h a n' hr) ha S'
theorem CompE.u {elt : Expr} (V : Nat → SV) (k : Nat) (n0 : SL) (back : SL → SL) (bs : Nat → List SV) (ow : Nat → SL) (src : Src C kp f n a V k n0 back) (p0 : Pick (ow 0) n0) (b0 : bs 0 = [])
    (step : ∀ i (C' : CxU w (relabel scope C.env) false) kp', i < k → TurnC C C' kp' f cl x (V i) g → EvX C' kp' f (ow i) elt (TPost1 bs ow i)) (fin : ∀ D, R (.val (.ref D)) (back ((D, oLst (bs k)) :: ow k))) : CompE C kp f elt x scope cl g R a n :=
  ⟨fun _ (_ : Unit) => True, V, k, n0, back, fun i _ => bs i, fun i _ => ow i, (), trivial, src, p0, b0, fun i _ C' kp' hi _ T => (step i C' kp' hi T).weak fun _ _ h => ⟨(), trivial, h.1, h.2⟩, fun _ _ => fin⟩
theorem CompTE.u {ct elt : Expr} (V : Nat → SV) (k : Nat) (n0 : SL) (back : SL → SL) (bs : Nat → List SV) (ow : Nat → SL) (src : Src C kp f n a V k n0 back) (p0 : Pick (ow 0) n0) (b0 : bs 0 = [])
    (step : ∀ i (C' : CxU w (relabel scope C.env) false) kp', i < k → TurnC C C' kp' f cl x (V i) g → ∃ p, Tst C' kp' f (ow i) ct p ∧ (p → EvX C' kp' f (ow i) elt (TPost1 bs ow i)) ∧ (¬ p → Pick (ow (i + 1)) (ow i) ∧ bs (i + 1) = bs i)) (fin : ∀ D, R (.val (.ref D)) (back ((D, oLst (bs k)) :: ow k))) : CompTE C kp f ct elt x scope cl g R a n :=
  ⟨fun _ (_ : Unit) => True, V, k, n0, back, fun i _ => bs i, fun i _ => ow i, (), trivial, src, p0, b0, fun i _ C' kp' hi _ T => (step i C' kp' hi T).elim fun p h => ⟨p, h.1, fun hp => (h.2.1 hp).weak fun _ _ h => ⟨(), trivial, h.1, h.2⟩, fun hp => ⟨(), trivial, h.2.2 hp⟩⟩, fun _ _ => fin⟩
theorem comp_end {kp1 : List (Addr × Obj)} {bs : List SV} {D : Addr} {h : Heap} {m : Str → Option Value} {ys : List Value} {nw : List (Addr × Obj)} (R0 : FrR C.xm f m) (hy : AllIs bs ys) (K : Conc n nw) (nd : (n.map (·.1)).Nodup) (hoff : ∀ p ∈ kp1, p.1 ∉ n.map (·.1)) (F : Fr C.s.heap C.L h m) (N : News C.s.heap C.L h ((D, lst ys) :: (nw ++ kp1))) (off : Off1 D (nw ++ kp1)) : C.St kp1 f ((D, oLst bs) :: n) h :=
  ⟨⟨m, F, R0⟩, ⟨(D, lst ys) :: nw, N, rfl, ⟨ys, ys.length, hy, rfl⟩, K⟩, List.nodup_cons.mpr ⟨fun hm => by
    rw [K.addrs] at hm
    obtain ⟨p, hp, e⟩ := List.mem_map.mp hm
    exact off1_mem off p (List.mem_append_left _ hp) e, nd⟩, fun p hp hm => by
    rcases List.mem_cons.mp hm with e | hm
    · exact off1_mem off p (List.mem_append_right _ hp) e
    · exact hoff p hp hm⟩
inductive StartI (C : CxU w cs md) (kp1 : List (Addr × Obj)) (f : SF) (n : SL) (h : Heap) : Prop
  | mk (m : Str → Option Value) (nw : List (Addr × Obj)) (F : Fr C.s.heap C.L h m) (R : FrR C.xm f m) (N : News C.s.heap C.L h (nw ++ kp1)) (K : Conc n nw) (nd : (n.map (·.1)).Nodup) (off : ∀ p ∈ kp1, p.1 ∉ n.map (·.1))
theorem comp_start {kp1 : List (Addr × Obj)} {h : Heap} (S : C.St kp1 f n h) : StartI C kp1 f n h := by
  obtain ⟨m, F, R⟩ := S.fr
  obtain ⟨nw, N, K⟩ := S.nw
  exact ⟨m, nw, F, R, N, K, S.nd, S.off⟩
theorem EvX.comp {elt iter : Expr} (d : EvX C kp f n iter (CompE C kp f elt x scope cl g R)) (hclos : closureFor scope C.env = pure cl) (hcell : autoParam (∀ y ∈ scope.names, y.2 ≠ .cell) tD) (hkind : autoParam (scope.kind = .function) tR) (hnames : autoParam (∀ y ∈ scope.names, y.2 = .local → scope.names.lookup y.1 = some .local) tD) (hx : autoParam (scope.names.lookup x = some .local) tR)
    (hxx : autoParam (isLoc (relabel scope C.env) x = true) tR) (hgg : autoParam (g.all (fun p => isCl (relabel scope C.env) p.1) = true) tR) (hs : ∀ x, foldedSetIterable iter C.env x = pure x := by exact fun _ => rfl) : EvX C kp f n (.ListComp elt [⟨.Name x px, iter, [], 0⟩] scope pos) R := fun Q h t S q => by
  rw [eval_ListComp]
  refine wpAny_comprehension_free (use := none) rfl hs hclos hkind hnames (d _ h t S fun v a n1 h1 t1 hr ha S1 => ?_)
  refine hide fun X kX => ?_
  obtain ⟨J, V, k, n0, back, bs, ow, a₀, hj, src, p0, b0, step, fin⟩ := hr
  obtain ⟨kp1, S2, ⟨I, fp, P, St, Sp, W, hIo, hSt, hV, hS, hI, hfp, hk, go⟩, thaw⟩ := src v h1 t1 ha S1
  obtain ⟨m, nw, F, R1, N, K, nd, hoff⟩ := comp_start (S2.pick p0)
  refine kX (go _ _ fun h2 up hz st => ?_)
  clear kX
  dsimp only [CxU.at] at hI up
  have N' : News C.s.heap C.L h2 (nw ++ kp1) := fun p hp => ⟨up _ _ (N p hp).1, (N p hp).2⟩
  refine block_U (s₂ := { C.s with heap := h2, toks := t1 }) W hk hIo hSt hcell hkind hx st (fun b hb => ?_) (F.keeps up) N' (by rw [hI]; exact Nat.ne_of_lt F.ns.lt) (by rw [hI]; exact next_is_new F) (fun p hp => by rw [hI]; exact Nat.ne_of_lt (Heap.lt_size (N p hp).1)) (hS nw)
    (Fin := fun ys nws => ∃ nw, nws = nw ++ kp1 ∧ TI J bs ow kp1 k ys nw) (restUX (hk := hkind) R1 hS hV hxx hgg step (fun ys nw T => ⟨nw, rfl, T⟩) k 0 [] nw (Nat.zero_add _) ⟨a₀, hj, by rw [b0]; trivial, K, nd, hoff⟩) ?_
  · show b < h2.objs.size
    rw [hz]; exact Nat.lt_succ_of_le (hfp b hb)
  · rintro D Ca h3 tk m' ys _ F2 N2 o1 hn hC₀ hD₀ hCL hDL hCD offC ⟨nw', rfl, a, hj, hy, K, nd, hoff⟩
    exact ⟨m', hn, fun h4 hs => q _ _ _ h4 tk (fin a hj D) rfl (thaw _ _ (comp_end R1 hy K nd hoff (F2.change hs hCL hC₀) (fun p hp => ⟨hs.extBut _ _ (by
      rcases List.mem_cons.mp hp with rfl | hp
      · exact Ne.symm hCD
      · exact offC p hp) (N2 p hp).1, (N2 p hp).2⟩) o1))⟩
theorem EvX.compT {ct elt iter : Expr} (d : EvX C kp f n iter (CompTE C kp f ct elt x scope cl g R)) (hclos : closureFor scope C.env = pure cl) (hcell : autoParam (∀ y ∈ scope.names, y.2 ≠ .cell) tD) (hkind : autoParam (scope.kind = .function) tR) (hnames : autoParam (∀ y ∈ scope.names, y.2 = .local → scope.names.lookup y.1 = some .local) tD) (hx : autoParam (scope.names.lookup x = some .local) tR)
    (hxx : autoParam (isLoc (relabel scope C.env) x = true) tR) (hgg : autoParam (g.all (fun p => isCl (relabel scope C.env) p.1) = true) tR) (hs : ∀ x, foldedSetIterable iter C.env x = pure x := by exact fun _ => rfl) : EvX C kp f n (.ListComp elt [⟨.Name x px, iter, [ct], 0⟩] scope pos) R := fun Q h t S q => by
  rw [eval_ListComp]
  refine wpAny_comprehension_free (use := none) rfl hs hclos hkind hnames (d _ h t S fun v a n1 h1 t1 hr ha S1 => ?_)
  refine hide fun X kX => ?_
  obtain ⟨J, V, k, n0, back, bs, ow, a₀, hj, src, p0, b0, step, fin⟩ := hr
  obtain ⟨kp1, S2, ⟨I, fp, P, St, Sp, W, hIo, hSt, hV, hS, hI, hfp, hk, go⟩, thaw⟩ := src v h1 t1 ha S1
  obtain ⟨m, nw, F, R1, N, K, nd, hoff⟩ := comp_start (S2.pick p0)
  refine kX (go _ _ fun h2 up hz st => ?_)
  clear kX
  dsimp only [CxU.at] at hI up
  have N' : News C.s.heap C.L h2 (nw ++ kp1) := fun p hp => ⟨up _ _ (N p hp).1, (N p hp).2⟩
  refine block_T (s₂ := { C.s with heap := h2, toks := t1 }) W hk hIo hSt hcell hkind hx st (fun b hb => ?_) (F.keeps up) N' (by rw [hI]; exact Nat.ne_of_lt F.ns.lt) (by rw [hI]; exact next_is_new F) (fun p hp => by rw [hI]; exact Nat.ne_of_lt (Heap.lt_size (N p hp).1)) (hS nw)
    (Fin := fun ys nws => ∃ nw, nws = nw ++ kp1 ∧ TI J bs ow kp1 k ys nw) (restTX (hk := hkind) R1 hS hV hxx hgg step (fun ys nw T => ⟨nw, rfl, T⟩) k 0 [] nw (Nat.zero_add _) ⟨a₀, hj, by rw [b0]; trivial, K, nd, hoff⟩) ?_
  · show b < h2.objs.size
    rw [hz]; exact Nat.lt_succ_of_le (hfp b hb)
  · rintro D Ca h3 tk m' ys _ F2 N2 o1 hn hC₀ hD₀ hCL hDL hCD offC ⟨nw', rfl, a, hj, hy, K, nd, hoff⟩
    exact ⟨m', hn, fun h4 hs => q _ _ _ h4 tk (fin a hj D) rfl (thaw _ _ (comp_end R1 hy K nd hoff (F2.change hs hCL hC₀) (fun p hp => ⟨hs.extBut _ _ (by
      rcases List.mem_cons.mp hp with rfl | hp
      · exact Ne.symm hCD
      · exact offC p hp) (N2 p hp).1, (N2 p hp).2⟩) o1))⟩
end
end
section
open PySem PySem.W PySem.Calls PySem.Spec PyProof PyProof.Rows
noncomputable def celN : List (Str × Option SV) → List Addr → SL
  | (_, some a) :: sp, c :: ad => (c, oCell a) :: celN sp ad
  | (_, none) :: sp, c :: ad => (c, oCell0) :: celN sp ad
  | _, _ => []
noncomputable def AllC (cm : Str → Option Value) : List (Str × Option SV) → Prop
  | [] => True
  | p :: sp => (match p.2 with | some a => ∃ v, cm p.1 = some v ∧ a.Is v | none => cm p.1 = none) ∧ AllC cm sp
theorem conc_cells {cm : Str → Option Value} : ∀ {cl : List (Str × Addr)} {cells : List (Addr × Obj)} {sp : List (Str × Option SV)}, CellsAre cm cl cells → AllC cm sp → sp.map (·.1) = cl.map (·.1) → Conc (celN sp (cl.map (·.2))) cells
  | [], _, [], .nil, _, _ => trivial
  | [], _, _ :: _, _, _, e => nomatch e
  | _ :: _, _, [], _, _, e => nomatch e
  | (x, c) :: cl, (_, o) :: cells, (y, b) :: sp, .cons hd r, h, e => by
    cases e' : b with
    | some a =>
      subst e'
      obtain ⟨v, h1, h2⟩ := h.1
      have : y = x := (List.cons.inj e).1
      subst this
      exact ⟨rfl, ⟨v, h2, by rw [hd, h1]⟩, conc_cells r h.2 (List.cons.inj e).2⟩
    | none =>
      subst e'
      have h1 : cm y = none := h.1
      have : y = x := (List.cons.inj e).1
      subst this
      exact ⟨rfl, hd.trans (congrArg Data.cell h1), conc_cells r h.2 (List.cons.inj e).2⟩
theorem celN_map : ∀ {sp : List (Str × Option SV)} {ad : List Addr}, sp.length = ad.length → (celN sp ad).map (·.1) = ad
  | [], [], _ => rfl
  | (_, some _) :: _, _ :: _, h => congrArg _ (celN_map (Nat.succ.inj h))
  | (_, none) :: _, _ :: _, h => congrArg _ (celN_map (Nat.succ.inj h))
  | [], _ :: _, h => nomatch h
  | _ :: _, [], h => nomatch h
theorem cellsFrom_nd : ∀ (names : List (Str × NameKind)) (n : Nat) (acc : List (Str × Addr)), (acc.map (·.2)).Nodup → (∀ p ∈ acc, p.2 < n) → ((cellsFrom n names acc).map (·.2)).Nodup
  | [], _, _, h, _ => h
  | (x, k) :: names, n, acc, h, hl => by
    unfold cellsFrom
    split
    · refine cellsFrom_nd names (n + 1) _ (List.nodup_cons.mpr ⟨fun hm => ?_, h⟩) fun p hp => ?_
      · obtain ⟨p, hp, e⟩ := List.mem_map.mp hm
        exact absurd (hl p hp) (e ▸ Nat.lt_irrefl _)
      · rcases List.mem_cons.mp hp with rfl | hp
        · exact Nat.lt_succ_self _
        · exact Nat.lt_succ_of_lt (hl p hp)
    · exact cellsFrom_nd names n acc h hl
theorem zip_back : ∀ l : List (Str × Addr), (l.map (·.1)).zip (l.map (·.2)) = l
  | [] => rfl
  | _ :: l => congrArg _ (zip_back l)
section
variable {w : World} {D U : Nat} {P : Heap → Prop} {Rp : Heap → Value → Heap → Prop} {name qual : Str} {params : Arguments} {body : List Stmt} {scope : Scope} {dV kV doc pm cdv ct oc : Value} {an od : Option Addr} {osl : Array (Option Value)} {f : Addr} {vs : List Value} {kw : List (Str × Value)} {binds : List (Str × Value)} {f0 : SF} {sp : List (Str × Option SV)}
theorem pur_SC (hD : 1 ≤ D)
    (ho : (Kx w.params).lookup f = some ⟨oc, od, .func (fnOf name qual params body scope dV kV doc pm an cdv ct), osl⟩) (hcd : codeIn (Kx w.params) cdv qual = true)
    (hbind : ∀ s : Shared, (Kx w.params).In s.heap → BindsTo s (fnOf name qual params body scope dV kV doc pm an cdv ct) ⟨vs, kw⟩ binds) (hkind : (binds.all fun y => scope.names.lookup y.1 == some .local || scope.names.lookup y.1 == some .cell) = true)
    (hnd : ((cellsFrom 0 scope.names []).map (·.1)).Nodup) (hf0 : AllF (bindL (fun y => scope.names.lookup y) binds fun _ => none) f0) (hsp : sp.map (·.1) = (cellsFrom 0 scope.names []).map (·.1)) (hcm : AllC (bindC (fun y => scope.names.lookup y) binds fun _ => none) sp)
    (h : ∀ C : Cx w scope, C.A.depth + D < recursionLimit + 1 → C.A.units + U < cLine + 3 → P C.s.heap → ∀ ad : List Addr, sp.length = ad.length → C.cl = (sp.map (·.1)).zip ad → ∀ Q, SEnd C Rp Q → G C [] f0 (celN sp ad) Q body)
    (hco : scope.isCoroutine = false) (hgen : scope.isGenerator = false) (hk : scope.kind = .function) : PurK w f vs kw D U P Rp := by
  refine pur_introC hD ho hcd hbind hkind hnd (fun dp un gd env outer base mean mg mb s E L' h₁ tk cells hd hu hP F N Y B X T => ?_) hco hgen hk
  have hs : sp.map (·.1) = (cellsFrom (L' + 1) scope.names []).map (·.1) := hsp.trans (cellsFrom_names _ _ _ _ _ rfl)
  have hl : sp.length = ((cellsFrom (L' + 1) scope.names []).map (·.2)).length := by rw [List.length_map, ← List.length_map (·.1), hs, List.length_map]
  have K := conc_cells Y hcm hs
  refine (h { A := (topE dp un gd env outer).deeper (envOfC qual scope L' f cdv), E := _, s := s, lo := L', fl := L', xf := fun _ => none, ql := _, fu := some f, ccd := cdv, cl := cellsFrom (L' + 1) scope.names [], hh := rfl, hk := hk, hP := fun _ => ?e, site := ⟨_, _, _, _, _, _, _, rfl, rfl, hk, B, X, T⟩ } ?_ ?_ hP ((cellsFrom (L' + 1) scope.names []).map (·.2)) hl (by rw [hs]; exact (zip_back _).symm) _ send_of).run h₁ tk ⟨⟨_, F, frr_of hf0⟩, ⟨cells, by rw [List.append_nil]; exact N, K⟩, by rw [celN_map hl]; exact cellsFrom_nd _ _ _ List.Pairwise.nil (fun _ h => nomatch h), fun _ h => nomatch h⟩
  case e => passes_own
  all_goals (simp only [Around.deeper]; omega)
end
section
variable {w : World} {cs : Scope} {md : Bool} {C : CxU w cs md} {kp : List (Addr × Obj)} {f g : SF} {n : SL} {Q : Flow → Shared → Prop} {x y : Str} {pos p2 p3 p4 p5 p6 : Pos} {rest : List Stmt} {α : Type} {R : SV → SL → Prop} {r : Addr} {as : List SV} {a b c : SV} {v : Value}
theorem EvX.o {f2 : SF} {e : Expr} {c : List Prop} (O : Orc true w cs f2 C.A C.env C.E C.s (C.St kp f n)) (k : R a n) (h : autoParam (evC true cs f2 30 e [] = some (a, c)) tR) (hp : autoParam (AllP c) tT) : EvX C kp f n e R := Ev.x (evc O h hp) k
theorem ev_if {test l r : Expr} {p : Prop} (d : Tst C kp f n test p) (h1 : p → Ev C kp f n l a) (h2 : ¬ p → Ev C kp f n r a) : Ev C kp f n (.IfExp test l r pos) a := fun _ _ _ S q =>
  wpAny_IfExp (d _ _ _ S fun b h t hb S1 => by
    cases b with
    | true => rw [if_pos rfl]; exact h1 (hb.mp rfl) _ _ _ S1 q
    | false => rw [if_neg Bool.false_ne_true]; exact h2 (fun hp => Bool.false_ne_true (hb.mpr hp)) _ _ _ S1 q)
theorem tst_isSame {l r' : Expr} {D : Addr} (h1 : Ev C kp f n l (.val (.ref D))) (h2 : Ev C kp f n r' (.val (.ref D))) : Tst C kp f n (.Compare l [.Is] [r'] pos) True :=
  tst_cmp h1 h2 (by decide) (by decide) fun u v s Q e1 e2 k => by cases e1; cases e2; exact wpAny_is_ref_self (k _ ⟨fun _ => trivial, fun _ => rfl⟩)
theorem tst_isTxt {l r' : Expr} {D : Addr} {z : Str} (h1 : Ev C kp f n l (.txt z)) (h2 : Ev C kp f n r' (.val (.ref D))) : Tst C kp f n (.Compare l [.Is] [r'] pos) False :=
  tst_cmp h1 h2 (by decide) (by decide) fun u v s Q ⟨_, _, e1⟩ e2 k => by subst e1; cases e2; exact wpAny_is_other (by rfl) (by intro x; cases x) (k _ ⟨fun h => Bool.noConfusion h, fun h => h.elim⟩)
theorem tst_neNil {e : Expr} {ns : List Int} (d : Ev C kp f n e (.val (.ref r))) (hl : LstAt C kp f n r (ns.map .num)) (hu : C.A.units + 64 < cLine) : Tst C kp f n (.Compare e [.NotEq] [.List [] p2] pos) (ns ≠ []) := fun _ _ _ S q =>
  wpAny_isTrue_Compare1 (d _ _ _ S fun _ h1 t1 e0 S1 => (EvX.list (.nil fun D => ⟨D, rfl, rfl⟩) : EvX C kp f n _ (fun a n' => ∃ D, a = .val (.ref D) ∧ n' = (D, oLst []) :: n)) _ _ _ S1 fun v a n' h2 t2 hr ha S2 => by
    obtain ⟨D, rfl, rfl⟩ := hr
    cases e0; cases ha
    have S3 := S2.pick (.drop (l := [_]))
    obtain ⟨vs, has, hv⟩ := hl _ S3
    obtain ⟨us, hus, hw⟩ := LstAt.own (C := C) (kp := kp) (f := f) (as := []) (.head _) _ S2
    exact ke_ne_ints (s := C.at h2 t2) hv hw (ints_of has) (ints_of (ns := []) hus) hu (wpAny_truthy_bool (q _ h2 t2 (by simp) S3))) (marks_not (by decide) (by decide))
theorem ev_inInts {e l : Expr} {ns : List Int} {k : Int} (d : Ev C kp f n e (.num k)) (dl : Ev C kp f n l (.val (.ref r))) (hl : LstAt C kp f n r (ns.map .num)) (hb : autoParam (behindInMarks .In l = false) tR) : Ev C kp f n (.Compare e [.In] [l] pos) (.val (.bool (ns.any (· == k)))) := fun _ _ _ S q =>
  wpAny_Compare1 (d _ _ _ S fun _ h1 t1 ⟨u, e1⟩ S1 => dl _ _ _ S1 fun _ h2 t2 e2 S2 => by
    subst e1; cases e2
    obtain ⟨vs, has, hv⟩ := hl _ S2
    exact in_list_ints (s := C.at h2 t2) hv (ints_of has) (q _ _ _ rfl S2)) hb
end
section
variable {w : World} {cs : Scope} {C : CxU w cs true} {kp : List (Addr × Obj)} {f g : SF} {n : SL} {Q : Flow → Shared → Prop} {x y : Str} {pos p2 p3 p4 p5 p6 : Pos} {rest : List Stmt} {α : Type} {R : SV → SL → Prop} {r : Addr} {as : List SV} {a b c : SV} {v : Value}
theorem gt_cell {c : Addr} {i : Nat} {P : Obj → Prop} {body : List Stmt} (hc : C.cl.lookup x = some c) (hi : n[i]? = some (c, P)) (hP : ∀ o, P o → ∃ v, o.data = .cell v) (k : G C kp f (n.set i (c, oCell a)) Q body) (hx : autoParam (isCl cs x = true) tR) : GT C kp f n a (.Name x p2) Q body := fun v h t ha S => by
  obtain ⟨m, news, o, g, F, _, N, ho, hm, U, _, close⟩ := S.open hi
  obtain ⟨v0, hd⟩ := hP o ho
  exact assign_Name (storeE_C (env := C.env) (s := C.at h t) F N hc U hd (fun h2 o2 F2 N2 e2 => k.run h2 _ (close (oCell a) o2 h2 ⟨v, ha, e2⟩ F2 N2)) C.hk (cl_of hx).1)
theorem oCell0.is {o : Obj} (h : oCell0 o) : ∃ v, o.data = .cell v := ⟨none, h⟩
theorem oCell.is {o : Obj} (h : oCell a o) : ∃ v, o.data = .cell v := by
  obtain ⟨v, _, e⟩ := h
  exact ⟨_, e⟩
end
end
section
open PySem PySem.W PySem.Calls PySem.Spec PyProof PyProof.Rows
noncomputable def nI (E : List Nat) : List Int := E.map fun e : Nat => (e : Int)
noncomputable def oCellU (o : Obj) : Prop := ∃ v, o.data = .cell v
theorem no_str {p : Params} : nsIn (Kx p) mainGlobals "list" = some none ∧ nsIn (Kx p) mainGlobals "type" = some none := ⟨by kernel_rfl, by kernel_rfl⟩
theorem AllIs.set : ∀ {as : List SV} {vs : List Value} {j : Nat} {a : SV} {v : Value}, AllIs as vs → a.Is v → AllIs (as.set j a) (vs.set j v)
  | [], [], _, _, _, _, _ => trivial
  | _ :: _, _ :: _, 0, _, _, h, ha => ⟨ha, h.2⟩
  | _ :: _, _ :: _, j + 1, _, _, h, ha => ⟨h.1, AllIs.set (j := j) h.2 ha⟩
  | [], _ :: _, _, _, _, h, _ => h.elim
  | _ :: _, [], _, _, _, h, _ => h.elim
theorem setL_is : ∀ {l : List Value} {j : Nat} {v : Value}, j < l.length → ki_setL l j v = some (l.set j v)
  | _ :: _, 0, _, _ => rfl
  | x :: l, j + 1, v, h => by
    show (match ki_setL l j v with | some r => some (x :: r) | none => none) = _
    rw [setL_is (Nat.lt_of_succ_lt_succ h)]; rfl
section
variable {w : World} {cs : Scope} {md : Bool} {C : CxU w cs md} {kp : List (Addr × Obj)} {f g : SF} {n : SL} {Q : Flow → Shared → Prop} {x y : Str} {pos p2 p3 p4 p5 p6 : Pos} {rest : List Stmt} {α : Type} {R : SV → SL → Prop} {r : Addr} {as : List SV} {a b c : SV} {v : Value}
theorem EvX.listOf {e : Expr} (d : Ev C kp f n e (.val (.ref r))) (hl : LstAt C kp f n r as) (hk : as.length ≤ big) (k : ∀ D, R (.val (.ref D)) ((D, oLst as) :: n)) (hg : autoParam (isGlo cs "list" = true) tR) (hs : autoParam (isStar e = false) tR) : EvX C kp f n (.Call (.Name "list" p2) [e] [] pos) R := fun _ _ _ S q =>
  Call_ (ev_B no_str.1 rfl (by decide) hg (by decide) _ _ _ S fun _ h0 t0 e0 S0 => by
    cases e0
    refine PySem.Pv.callWith_type1 (args_cons (d _ _ _ S0 fun _ h1 t1 e1 S1 => args_nil ?_) (star_not hs)) (star_not hs) rfl
    cases e1
    obtain ⟨vs, h2, h3⟩ := hl _ S1
    obtain ⟨m, news, F, _, N, _, add, _⟩ := S1.use
    exact list_copyK (s := C.at h1 t1) F N h3 (fun D j h' F' N' lt => q _ _ _ h' t1 (k D) rfl (add h' D _ _ F' N' lt ⟨vs, j, h2, rfl⟩)) (by rw [List.size_toArray, h2.length]; exact small_list hk)) (by cases e <;> rfl)
theorem EvX.join {e : Expr} {sep : Str} {i : Nat} (d : EvX C kp f n e (fun a n' => ∃ r xs, a = .val (.ref r) ∧ LstAt C kp f n' r (xs.map sx) ∧ (xs.map List.length).sum + xs.length * sep.cps.toList.length ≤ big ∧ (joinL sep.cps.toList xs).length ≤ big ∧ R (sx (joinL sep.cps.toList xs)) n')) (hs : autoParam (isStar e = false) tR)
    (he : ∃ pl, eval (.Call (.Attribute (.Constant (.str sep) i p2) "join" p3) [e] [] pos) C.env = (do
         let ov ← eval (.Constant (.str sep) i p2) C.env
         standAt p3.atName
         let (f, first) ← holding [ov] (getMethod ov "join" pl)
         callWith pos f first (backTo pos (starEach [e] C.env)) []) := by exact ⟨_, rfl⟩) : EvX C kp f n (.Call (.Attribute (.Constant (.str sep) i p2) "join" p3) [e] [] pos) R := fun _ _ _ S q => by
    refine MethodCall_ ?_ he.choose_spec
    refine Calls.Constant_str ?_
    with_reducible refine GM.join ?_
    refine callWith_method1 (args_cons (d _ _ _ S fun v a n' h5 t5 hr ha S5 => args_nil ?_) (star_not hs)) (star_not hs) rfl
    obtain ⟨r, xs, rfl, hl, hok, hj, hR⟩ := hr
    cases ha
    obtain ⟨vs, h2, h3⟩ := hl _ S5
    exact join_of (s := C.at h5 t5) (sep := sep.cps.toList) h3 (strs_of h2) (Nat.le_trans hok (by decide)) fun t' k => q _ _ _ _ _ hR ⟨by rw [mk_len]; exact hj, t', rfl⟩ S5
theorem EvX.adds {l r' : Expr} {z : Str} (d : Ev C kp f n l (.txt z)) (e : EvX C kp f n r' (fun a n' => ∃ u, a = .txt u ∧ z.length + u.length ≤ big ∧ R (.txt (z ++ u)) n')) : EvX C kp f n (.BinOp l .Add r' pos) R := fun _ _ _ S q =>
  wpAny_BinOp (d _ _ _ S fun _ _ _ ⟨_, _, e1⟩ S1 => e _ _ _ S1 fun _ _ _ _ _ ⟨u, e3, hl, hR⟩ ha S2 => by
    subst e1 e3
    obtain ⟨_, _, rfl⟩ := ha
    exact add_str (fun _ _ => q _ _ _ _ _ hR ⟨by rw [Str.length_append]; exact hl, _, rfl⟩ S2) (by rw [sizeLine_eq]; unfold big at hl; omega))
theorem tst_isP {l r' : Expr} {u z : Value} (h1 : Ev C kp f n l (.val u)) (h2 : Ev C kp f n r' (.val z)) (hp : autoParam (plainIs u z = true) tR) : Tst C kp f n (.Compare l [.Is] [r'] pos) ((u == z) = true) :=
  tst_cmp h1 h2 (by decide) (by decide) fun u v s Q e1 e2 k => by cases e1; cases e2; exact wpAny_is_plain hp (k _ Iff.rfl)
theorem ev_type {e : Expr} {Tx : String} (d : Ev C kp f n e (.val v)) (hT : ∀ s : Shared, s.TypeIs v Tx) (hnb : (Value.type Tx == Value.type "builtin_function_or_method") = false) (hg : autoParam (isGlo cs "type" = true) tR) (hs : autoParam (isStar e = false) tR) : Ev C kp f n (.Call (.Name "type" p2) [e] [] pos) (.val (.type Tx)) := fun _ _ _ S q =>
  Call_ (ev_B no_str.2 rfl (by decide) hg (by decide) _ _ _ S fun _ h0 t0 e0 S0 => by
    cases e0
    refine PySem.Pv.callWith_type1 (args_cons (d _ _ _ S0 fun _ h1 t1 e1 S1 => args_nil ?_) (star_not hs)) (star_not hs) rfl
    cases e1
    exact call_type_of (hT _) hnb (q _ _ _ rfl S1)) (by cases e <;> rfl)
end
section
variable {w : World} {cs : Scope} {C : CxU w cs true} {kp : List (Addr × Obj)} {f g : SF} {n : SL} {Q : Flow → Shared → Prop} {x y : Str} {pos p2 p3 p4 p5 p6 : Pos} {rest : List Stmt} {α : Type} {R : SV → SL → Prop} {r : Addr} {as : List SV} {a b c : SV} {v : Value}
theorem g_setItem {i : Nat} {k : Int} {e ex ix : Expr} (d : Ev C kp f n e a) (dx : Ev C kp f n ex (.val (.ref r))) (di : Ev C kp f n ix (.num k)) (hm : n[i]? = some (r, oLst as)) (h0 : 0 ≤ k) (hk : k.toNat < as.length) (h63 : k < 2 ^ 63) (q : G C kp f (n.set i (r, oLst (as.set k.toNat a))) Q rest) (hs : autoParam (isComp e = false) tR) :
    G C kp f n Q (.Assign [.Subscript ex ix p5] e pos :: rest) := .mk fun h t S =>
  wpAny_execs_cons (wpAny_Assign_Subscript (d _ _ _ S fun v h1 t1 hv S1 => dx _ _ _ S1 fun _ h2 t2 e2 S2 => di _ _ _ S2 fun _ h3 t3 ⟨_, e3⟩ S3 => by
    cases e2; subst e3
    obtain ⟨m, news, o, g', F, _, N, hP, hmem, _, U, close⟩ := S3.open hm
    obtain ⟨us, l, has, rfl⟩ := hP
    exact ki_set (s := C.at h3 t3) F N h0 h63 (setL_is (by rw [has.length]; exact hk)) (U _) fun h6 F6 N6 => q.run h6 _ (close _ _ h6 ⟨us.set k.toNat v, l, has.set hv, rfl⟩ F6 N6)) (swaps_not hs))
theorem g_for3 {e1 e2 e3 : Expr} {body : List Stmt} {a b z : Int} {k : Nat} (V : Nat → Int) (hV : ∀ i : Nat, a + i * z = V i) (J : Nat → α → Prop) (fr : Nat → α → SF) (ow : Nat → α → SL) (a₀ : α) (hj : J 0 a₀)
    (d1 : Ev C kp f n e1 (.num a)) (d2 : Ev C kp f n e2 (.num b)) (d3 : Ev C kp f n e3 (.num z)) (turn : ∀ i b own, i < k → J i b → ∀ Q', (∀ fl s', LPost C (own ++ kp) J fr ow (i + 1) (Seq C Q rest) fl s' → Q' fl s') → G C (own ++ kp) ((x, .num (V i)) :: fr i b) (ow i b) Q' body)
    (done : ∀ b, J k b → G C kp (fr k b) (ow k b) Q rest) (hsm : Builtin.Range.small a b z = true) (hk : Builtin.Range.rangeSize a b z = (k : Int)) (hz : z ≠ 0) (hp : Builtin.divisionGoesByPylong (b - a) z = false) (hx : autoParam (isLoc cs x = true) tR) (hgl : autoParam (isGlo cs "range" = true) tR) (hs : autoParam (noStars [e1, e2, e3] = true) tR) (ef : autoParam (fr 0 a₀ = f) tR) (en : autoParam (ow 0 a₀ = n) tR) :
    G C kp f n Q (.For (.Name x p2) (.Call (.Name "range" p3) [e1, e2, e3] [] p4) body [] pos :: rest) := .mk fun h t S => by
  have hs' := hs
  unfold noStars noStars noStars at hs'
  have s1 : isStar e1 = false := by revert hs'; cases isStar e1 <;> simp
  have s2 : isStar e2 = false := by revert hs'; cases isStar e2 <;> simp
  have s3 : isStar e3 = false := by revert hs'; cases isStar e3 <;> simp
  refine wpAny_execs_cons (For_invV C.s.heap (loc_of hx).1 (par_ok C.hk) (Call_ (ev_B no_range rfl (by decide) hgl (by decide) _ _ _ S fun _ _ _ e0 S0 => ?_) (by cases e1 <;> rfl)) (fun _ => rfl) C.hE)
  cases e0
  refine PySem.Pv.callWith_type1 (args_cons (d1 _ _ _ S0 fun _ h1 t1 ⟨_, e1⟩ S1 => args_cons (d2 _ _ _ S1 fun _ h2 t2 ⟨_, e2⟩ S2 => args_cons (d3 _ _ _ S2 fun _ h3 t3 ⟨_, e3⟩ S3 => args_nil ?_) (star_not s3)) (star_not s2)) (star_not s1)) (star_not s1) (by rw [star_not s2, star_not s3]; rfl)
  subst e1 e2 e3 ef en
  exact call_range_3 hz (range_loop (a := a) (b := b) (c := z) (h := h3.push _) (Q := Seq C Q rest) V hV J fr ow a₀ (IsRange.new ..) hsm hk (S3.push _) hj turn (fun b h t hj S => (done b hj).run h t S)) (.inl hp)
end
end
section
open PySem PySem.W PySem.Calls PySem.Spec PyProof PyProof.Rows
def AttIs (P : Params) : List (Str × SV) → List DictEntry → Prop
  | [], [] => True
  | p :: l, e :: es => (∃ t v, e = ⟨PyData.keyHash P p.1, .str p.1 t, v⟩ ∧ p.2.Is v) ∧ AttIs P l es
  | _, _ => False
inductive oAtt (P : Params) (l : List (Str × SV)) (o : Obj) : Prop
  | mk (es : List DictEntry) (k : Nat) (h : AttIs P l es) (e : o = dictOf es k)
inductive AttG (x : Str) (a : SV) (es : List DictEntry) : Prop
  | mk (v : Value) (hg : getL x es = some (some v)) (ha : a.Is v)
theorem getL_cons {x y : Str} {h : Int} {t : Tok} {v : Value} {es : List DictEntry} : getL x (⟨h, .str y t, v⟩ :: es) = if x = y then some (some v) else getL x es := by
  unfold getL
  rw [List.find?_cons, List.any_cons, show (Value.str y t).isStr x = (y == x) from rfl]
  by_cases e : x = y
  · rw [if_pos e, e, beq_self_eq_true]
  · rw [if_neg e, beq_eq_false_iff_ne.mpr (Ne.symm e)]; rfl
theorem AttIs.get {P : Params} {x : Str} {a : SV} : ∀ {l : List (Str × SV)} {es : List DictEntry}, AttIs P l es → lkS x l = some a → AttG x a es
  | [], [], _, h => nomatch h
  | (y, b) :: l, _ :: es, ⟨⟨t, v, e, hv⟩, H⟩, h => by
    subst e
    unfold lkS at h
    by_cases q : x = y
    · rw [if_pos q] at h; cases h
      exact ⟨v, by rw [getL_cons, if_pos q], hv⟩
    · rw [if_neg q] at h
      obtain ⟨u, h1, h2⟩ := AttIs.get H h
      exact ⟨u, by rw [getL_cons, if_neg q, h1], h2⟩
  | [], _ :: _, H, _ => H.elim
  | _ :: _, [], H, _ => H.elim
theorem AttIs.no {P : Params} {x : Str} : ∀ {l : List (Str × SV)} {es : List DictEntry}, AttIs P l es → lkS x l = none → getL x es = some none
  | [], [], _, _ => rfl
  | (y, b) :: l, _ :: es, ⟨⟨t, v, e, hv⟩, H⟩, h => by
    subst e
    unfold lkS at h
    by_cases q : x = y
    · rw [if_pos q] at h; cases h
    · rw [if_neg q] at h
      rw [getL_cons, if_neg q]
      exact AttIs.no H h
  | [], _ :: _, H, _ => H.elim
  | _ :: _, [], H, _ => H.elim
theorem AttIs.some {P : Params} {x : Str} {l : List (Str × SV)} {es : List DictEntry} (H : AttIs P l es) : (getL x es).isSome = true := by
  cases h : lkS x l with
  | none => rw [H.no h]; rfl
  | some a => obtain ⟨v, e, _⟩ := H.get h; rw [e]; rfl
noncomputable def setA (x : Str) (a : SV) : List (Str × SV) → List (Str × SV)
  | [] => [(x, a)]
  | p :: l => if x = p.1 then (p.1, a) :: l else p :: setA x a l
theorem AttIs.put {P : Params} {x : Str} {a : SV} {v : Value} {t : Tok} (ha : a.Is v) : ∀ {l : List (Str × SV)} {es : List DictEntry}, AttIs P l es → AttIs P (setA x a l) (putL x (PyData.keyHash P x) (.str x t) v es)
  | [], [], _ => ⟨⟨t, v, rfl, ha⟩, trivial⟩
  | (y, b) :: l, _ :: es, ⟨⟨t', u, e, hv⟩, H⟩ => by
    subst e
    unfold setA putL
    rw [show (Value.str y t').isStr x = (y == x) from rfl]
    by_cases q : x = y
    · rw [if_pos q, if_pos (by rw [q, beq_self_eq_true])]; exact ⟨⟨t', v, rfl, ha⟩, H⟩
    · rw [if_neg q, if_neg (by rw [beq_eq_false_iff_ne.mpr (Ne.symm q)]; decide)]; exact ⟨⟨t', u, rfl, hv⟩, AttIs.put ha H⟩
  | [], _ :: _, H => H.elim
  | _ :: _, [], H => H.elim
theorem AttIs.length {P : Params} : ∀ {l : List (Str × SV)} {es : List DictEntry}, AttIs P l es → es.length = l.length
  | [], [], _ => rfl
  | _ :: _, _ :: _, H => congrArg (· + 1) (AttIs.length H.2)
  | [], _ :: _, H => H.elim
  | _ :: _, [], H => H.elim
noncomputable def handS : SV → Bool
  | .val v => handedIn v
  | _ => true
theorem handS_is {a : SV} {v : Value} (h : handS a = true) (ha : a.Is v) : handedIn v = true := by
  cases a with
  | num i => obtain ⟨u, rfl⟩ := ha; rfl
  | txt x => obtain ⟨_, u, rfl⟩ := ha; rfl
  | val x => cases ha; exact h
section
variable {w : World} {cs : Scope} {C : CxU w cs true} {kp : List (Addr × Obj)} {f g : SF} {n : SL} {Q : Flow → Shared → Prop} {x y : Str} {pos p2 p3 p4 p5 p6 : Pos} {rest : List Stmt} {α : Type} {R : SV → SL → Prop} {r : Addr} {as : List SV} {a b c : SV} {v : Value} {attr : Str} {X cc d : Addr} {l : List (Str × SV)}
theorem ev_att (hy : lkS y f = some (.val (.ref X))) (hx : (X, oEq (instObj cc d)) ∈ n) (hd : (d, oAtt w.params l) ∈ n) (hl : lkS attr l = some a) (hk : autoParam (attrIn w.params cc attr = true) tK) (hh : autoParam (handS a = true) tR) (hloc : autoParam (isLoc cs y = true) tR) : Ev C kp f n (.Attribute (.Name y p2) attr pos) a := fun _ _ _ S q =>
  Attribute_Name_ (ev_name hy hloc _ _ _ S fun _ h1 t1 e0 S1 => by
    cases e0
    obtain ⟨m, F, R1⟩ := S1.fr
    obtain ⟨o1, g1, e1, _⟩ := S1.at' hx
    obtain ⟨o2, g2, ⟨es, k, hA, rfl⟩, _⟩ := S1.at' hd
    cases e1
    obtain ⟨v, hg, ha⟩ := hA.get hl
    unfold attrIn at hk
    rw [Bool.and_eq_true, Bool.and_eq_true] at hk
    cases hf : findIn (Kx w.params) (.ref cc) attr with
    | none => rw [hf] at hk; exact nomatch hk.2
    | some at' =>
      rw [hf] at hk
      exact get_own (s := C.at h1 t1) F (C_in C).1 ⟨g1, rfl, rfl, g2⟩ hk.1.1 hk.1.2 hf hk.2 hg (handS_is hh ha) (q _ _ _ ha S1))
def GA (C : CxU w cs true) (kp : List (Addr × Obj)) (f : SF) (n : SL) (a : SV) (tg : Expr) (R : SF → SL → Prop) : Prop :=
  ∀ (v : Value) (h : Heap) (t : Nat) (Q : Unit → Shared → Prop), a.Is v → C.St kp f n h → (∀ f' n' h' t', R f' n' → C.St kp f' n' h' → Q () (C.at h' t')) → wpAny (model pw w) C.A (assign tg C.env v) Q C.E (C.at h t)
theorem ga_name {K : SF → SL → Prop} (k : K ((x, a) :: f) n) (hx : autoParam (isLoc cs x = true) tR) : GA C kp f n a (.Name x p2) K := fun v h t Q ha S q =>
  assign_Name (st_store S ha hx fun h2 t2 S2 => q _ _ h2 t2 k S2)
theorem ga_cell {K : SF → SL → Prop} {c : Addr} {i : Nat} {P : Obj → Prop} (hc : C.cl.lookup x = some c) (hi : n[i]? = some (c, P)) (hP : ∀ o, P o → ∃ v, o.data = .cell v) (k : K f (n.set i (c, oCell a))) (hx : autoParam (isCl cs x = true) tR) : GA C kp f n a (.Name x p2) K := fun v h t Q ha S q => by
  obtain ⟨m, news, o, g, F, _, N, ho, hm, U, _, close⟩ := S.open hi
  obtain ⟨v0, hd⟩ := hP o ho
  exact assign_Name (storeE_C (env := C.env) (s := C.at h t) F N hc U hd (fun h2 o2 F2 N2 e2 => q _ _ h2 _ k (close (oCell a) o2 h2 ⟨v, ha, e2⟩ F2 N2)) C.hk (cl_of hx).1)
theorem st_att {i : Nat} {h : Heap} {t : Nat} {Q : Unit → Shared → Prop} (S : C.St kp f n h) (hx : (X, oEq (instObj cc d)) ∈ n) (hd : n[i]? = some (d, oAtt w.params l)) (hset : setIn w.params cc attr = true) (hl : l.length ≤ 100) (ha : a.Is v) (q : ∀ h' t', C.St kp f (n.set i (d, oAtt w.params (setA attr a l))) h' → Q () (C.at h' t')) :
    wpAny (model pw w) C.A (setAttr (.ref X) attr v) Q C.E (C.at h t) := by
  unfold setIn at hset
  rw [Bool.and_eq_true, Bool.and_eq_true, Bool.and_eq_true] at hset
  obtain ⟨o1, g1, e1, _⟩ := S.at' hx
  cases e1
  obtain ⟨m, news, o, g', F, _, N, ⟨es, k, hA, rfl⟩, hmem, _, U, close⟩ := S.open hd
  exact set_dict (s := C.at h t) F (C_in C).1 N ⟨g1, rfl, rfl, N.get hmem⟩ rfl (beq_iff_eq.mp hset.1.1.1) hset.1.1.2 (beq_iff_eq.mp hset.1.2) hset.2 hA.some rfl (U _) (Nat.le_trans (putL_len _ _ _ _ _) (by rw [hA.length]; exact Nat.le_trans (Nat.succ_le_succ hl) (by decide))) fun h3 F3 N3 => q h3 _ (close _ _ h3 ⟨_, _, hA.put ha, rfl⟩ F3 N3)
theorem ga_att {K : SF → SL → Prop} {i : Nat} (hy : lkS y f = some (.val (.ref X))) (hx : (X, oEq (instObj cc d)) ∈ n) (hd : n[i]? = some (d, oAtt w.params l)) (k : K f (n.set i (d, oAtt w.params (setA attr a l)))) (hl : l.length ≤ 100 := by exact Nat.le_of_ble_eq_true rfl) (hset : autoParam (setIn w.params cc attr = true) tK) (hloc : autoParam (isLoc cs y = true) tR) : GA C kp f n a (.Attribute (.Name y p2) attr p3) K := fun v h t Q ha S q =>
  kas_attr (ev_name hy hloc _ _ _ S fun _ h2 t2 e2 S2 => by
    cases e2
    exact st_att S2 hx hd hset hl ha fun h3 t3 S3 => q _ _ h3 t3 k S3)
theorem g_att {e : Expr} {i : Nat} (d0 : EvX C kp f n e (fun a n' => (X, oEq (instObj cc d)) ∈ n' ∧ n'[i]? = some (d, oAtt w.params l) ∧ G C kp f (n'.set i (d, oAtt w.params (setA attr a l))) Q rest)) (hy : autoParam (lkS y f = some (.val (.ref X))) tR) (hl : l.length ≤ 100 := by exact Nat.le_of_ble_eq_true rfl) (hset : autoParam (setIn w.params cc attr = true) tK) (hloc : autoParam (isLoc cs y = true) tR) (hs : autoParam (isComp e = false) tR) :
    G C kp f n Q (.Assign [.Attribute (.Name y p2) attr p3] e pos :: rest) := .mk fun h t S =>
  wpAny_execs_cons (plainObj_wpAny_Assign_Attribute (d0 _ h t S fun v a n' h1 t1 hr ha S1 => ev_name hy hloc _ _ _ S1 fun _ h2 t2 e2 S2 => by
    cases e2
    exact st_att S2 hr.1 hr.2.1 hset hl ha fun h3 t3 S3 => hr.2.2.run h3 t3 S3) (swaps_not hs))
theorem g_two {e t1 t2 : Expr} (d0 : EvX C kp f n e (fun a n1 => GA C kp f n1 a t1 (fun f2 n2 => GA C kp f2 n2 a t2 (fun f3 n3 => G C kp f3 n3 Q rest)))) (he : autoParam ((assignEach [t1, t2] C.env).map (·.2) = [assign t1 C.env, assign t2 C.env]) tR) (hw : autoParam (swappedStores [t1, t2] e C.env = pure none) tR) :
    G C kp f n Q (.Assign [t1, t2] e pos :: rest) := .mk fun h t S =>
  wpAny_execs_cons (wpAny_Assign_two (d0 _ h t S fun v a n1 h1 t1 hr ha S1 => hr v h1 t1 _ ha S1 fun f2 n2 h2 t2 k2 S2 => k2 v h2 t2 _ ha S2 fun f3 n3 h3 t3 k3 S3 => k3.run h3 t3 S3) he hw)
theorem no_set {p : Params} : nsIn (Kx p) mainGlobals "set" = some none := by kernel_rfl
inductive oSet0 (w : World) (o : Obj) : Prop
  | mk (h : Obj.SetObjOf (PySem.strKind pw w) o (fun _ => false) 0)
theorem EvX.set0 (k : ∀ D, R (.val (.ref D)) ((D, oSet0 w) :: n)) (hg : autoParam (isGlo cs "set" = true) tR) : EvX C kp f n (.Call (.Name "set" p2) [] [] pos) R := fun _ _ _ S q =>
  Call_ (ev_B no_set rfl (by decide) hg (by decide) _ _ _ S fun _ h0 t0 e0 S0 => by
    cases e0
    obtain ⟨m, news, F, _, N, _, add, _⟩ := S0.use
    exact PyProof.Rows.callWith_type0 (kse_new (s := C.at h0 t0) F N fun D h' led F' N' lt _ hs => q _ _ _ h' t0 (k D) rfl (add h' D _ _ F' N' lt ⟨hs⟩))) rfl
end
section
variable {w : World} {D U : Nat} {Rp : Heap → Value → Heap → Prop} {name qual : Str} {params : Arguments} {body : List Stmt} {scope : Scope} {dV kV doc pm cdv ct oc : Value} {an od : Option Addr} {osl : Array (Option Value)} {vs : List Value}
theorem cls_S {K fI : Addr} {bindsX : Addr → List (Str × Value)} {f0 : Addr → SF} (hD : 2 ≤ D) (hm : makesIn (Kx w.params) K = true) (hi : findIn (Kx w.params) (.ref K) "__init__" = some (some (.ref fI))) (hfn : isFn (Kx w.params) (.ref fI) = true)
    (hmono : ∀ (h g h' : Heap) (v : Value), h.StaysIn g → Rp g v h' → Rp h v h')
    (ho : (Kx w.params).lookup fI = some ⟨oc, od, .func (fnOf name qual params body scope dV kV doc pm an cdv ct), osl⟩) (hcd : codeIn (Kx w.params) cdv qual = true)
    (hbind : ∀ (x : Addr) (s : Shared), (Kx w.params).In s.heap → BindsTo s (fnOf name qual params body scope dV kV doc pm an cdv ct) ⟨.ref x :: vs, []⟩ (bindsX x)) (hloc : ∀ x, ∀ y ∈ bindsX x, scope.names.lookup y.1 = some .local)
    (hf0 : ∀ x, AllF (fun y => (bindsX x).reverse.lookup y) (f0 x))
    (h : ∀ C : Cx w scope, C.A.depth + D < recursionLimit + 2 → C.A.units + U < cLine + 4 → ∀ x dx, x ≠ dx → ∀ Q, SEnd C (fun h v h' => v = .none ∧ Rp h (.ref x) h') Q → G C [] (f0 x) [(x, oEq (instObj K dx)), (dx, oEq (dictOf [] 0))] Q body)
    (hco : scope.isCoroutine = false) (hgen : scope.isGenerator = false) (hk : scope.kind = .function)
    (hcell : ∀ x ∈ scope.names, x.2 ≠ .cell) : Pur w K vs D U (fun _ => True) Rp := by
  refine cls_intro hD hm hi hfn hmono ho hcd hbind hloc (fun dp un gd env outer base mean mg mb s E L' h₁ tk x dx hd hu hlt F N B X T => ?_) hco hgen hk hcell
  refine (h { A := ((topE dp un gd env outer).under (.builtin "type.__call__" ⟨.ref K :: vs, []⟩)).deeper (envOf qual scope L' fI cdv), E := _, s := s, lo := L', fl := L', xf := fun _ => none, ql := _, fu := some fI, ccd := cdv, cl := [], hh := rfl, hk := hk, hP := fun _ => ?e, site := ⟨_, _, _, _, _, _, _, rfl, rfl, hk, B, X, T⟩ } ?_ ?_ x dx (Nat.ne_of_gt hlt) _ send_of).run h₁ tk ⟨⟨_, F, frr_of (hf0 x)⟩, ⟨[(x, instObj K dx), (dx, dictOf [] 0)], by rw [List.append_nil]; exact N, ⟨rfl, rfl, rfl, rfl, trivial⟩⟩, List.nodup_cons.mpr ⟨fun hm => Nat.ne_of_gt hlt (List.mem_singleton.mp hm), List.pairwise_singleton _ _⟩, fun _ h => nomatch h⟩
  case e => passes_own
  · show dp + 1 + 1 + D < _; omega
  · show un + 1 + 3 + U < _; omega
end
end
section
open PySem PySem.W PySem.Calls PySem.Spec PyProof PyProof.Rows
noncomputable def kvT (T : List (Nat × Addr)) : List (Str × Value) := T.map fun r => ((⟨#[r.1]⟩ : Str), Value.ref r.2)
noncomputable def oKv (w : World) (kvs : List (Str × Value)) (o : Obj) : Prop := o.IsDictOf (PySem.strKind pw w) kvs
noncomputable def occS (l : List Nat) (n c : Nat) : List SV := (nI (occ l n c)).map .num
noncomputable def rowsN (l : List Nat) (n : Nat) (T : List (Nat × Addr)) : SL := T.map fun r => (r.2, oLst (occS l n r.1))
theorem kvT_at {T : List (Nat × Addr)} {c : Nat} {v : Value} : valueAt (kvT T) ⟨#[c]⟩ = some v → ∃ a, v = .ref a ∧ (c, a) ∈ T := fun h => by
  unfold valueAt at h
  obtain ⟨kv, h1, rfl⟩ := Option.map_eq_some_iff.mp h
  obtain ⟨r, hr, rfl⟩ := List.mem_map.mp (List.mem_of_find?_eq_some h1)
  have := of_decide_eq_true (List.find?_some (p := fun kv : Str × Value => decide (kv.1 = ⟨#[c]⟩)) h1)
  exact ⟨r.2, rfl, sign_inj this ▸ hr⟩
theorem kvT_value : ∀ {T : List (Nat × Addr)} {r : Nat × Addr}, (T.map (·.1)).Nodup → r ∈ T → valueAt (kvT T) ⟨#[r.1]⟩ = some (.ref r.2) := fun {T r} hn hr => by
  cases h : valueAt (kvT T) ⟨#[r.1]⟩ with
  | none =>
    unfold valueAt at h
    rw [Option.map_eq_none_iff, List.find?_eq_none] at h
    exact absurd (decide_eq_true rfl) (h _ (List.mem_map.mpr ⟨r, hr, rfl⟩))
  | some v =>
    obtain ⟨a, rfl, ha⟩ := kvT_at h
    have : ∀ {T : List (Nat × Addr)}, (T.map (·.1)).Nodup → r ∈ T → (r.1, a) ∈ T → a = r.2 := fun {T} => by
      induction T with
      | nil => intro _ h; cases h
      | cons q T ih =>
        intro hn h1 h2
        rw [List.map_cons, List.nodup_cons] at hn
        rcases List.mem_cons.mp h1 with e1 | h1
        · rcases List.mem_cons.mp h2 with e2 | h2
          · rw [e1, ← e2]
          · exact absurd (List.mem_map.mpr ⟨_, h2, rfl⟩) (e1 ▸ hn.1)
        · rcases List.mem_cons.mp h2 with e2 | h2
          · exact absurd (List.mem_map.mpr ⟨r, h1, by rw [← e2]⟩) hn.1
          · exact ih hn.2 h1 h2
    rw [this hn hr ha]
theorem kvT_none {T : List (Nat × Addr)} {c : Nat} (h : valueAt (kvT T) ⟨#[c]⟩ = none) : ∀ r ∈ T, r.1 ≠ c := fun r hr e => by
  unfold valueAt at h
  rw [Option.map_eq_none_iff, List.find?_eq_none] at h
  exact h _ (List.mem_map.mpr ⟨r, hr, rfl⟩) (decide_eq_true (by rw [e]))
theorem kvT_stored {T : List (Nat × Addr)} {c : Nat} {D : Addr} (h : valueAt (kvT T) ⟨#[c]⟩ = none) : stored (kvT T) ⟨#[c]⟩ (.ref D) = kvT (T ++ [(c, D)]) := by
  unfold stored
  rw [if_neg]
  · unfold kvT; rw [List.map_append]; rfl
  · rw [List.any_eq_true]
    rintro ⟨kv, hkv, e⟩
    obtain ⟨r, hr, rfl⟩ := List.mem_map.mp hkv
    exact kvT_none h r hr (sign_inj (of_decide_eq_true e))
theorem occS_other {l : List Nat} {n c d : Nat} (h : l[n]? = some c) (hd : d ≠ c) : occS l (n + 1) d = occS l n d := by
  unfold occS
  rw [occ_succ, h, if_neg (fun e => hd (Option.some.inj e).symm), List.append_nil]
theorem occS_same {l : List Nat} {n c : Nat} (h : l[n]? = some c) : occS l (n + 1) c = occS l n c ++ [.num n] := by
  unfold occS nI
  rw [occ_succ, h, if_pos rfl, List.map_append, List.map_append]; rfl
theorem rowsN_other {l : List Nat} {n c : Nat} (h : l[n]? = some c) {T : List (Nat × Addr)} (hT : ∀ r ∈ T, r.1 ≠ c) : rowsN l (n + 1) T = rowsN l n T :=
  List.map_congr_left fun r hr => by rw [occS_other h (hT r hr)]
theorem rowsN_app {l : List Nat} {n : Nat} {T T' : List (Nat × Addr)} : rowsN l n (T ++ T') = rowsN l n T ++ rowsN l n T' := List.map_append
theorem occ_len (l : List Nat) (n c : Nat) : (occS l n c).length ≤ n := by
  unfold occS nI occ
  rw [List.length_map, List.length_map]
  exact Nat.le_trans (List.length_filter_le _ _) (by rw [List.length_range]; exact Nat.le_refl _)
theorem no_sdef {p : Params} : nsIn (Kx p) mainGlobals "enumerate" = some none := by kernel_rfl
section
variable {w : World} {cs : Scope} {C : CxU w cs true} {kp : List (Addr × Obj)} {f g : SF} {n : SL} {Q : Flow → Shared → Prop} {x y : Str} {pos p2 p3 p4 p5 p6 : Pos} {rest : List Stmt} {α : Type} {R : SV → SL → Prop} {r : Addr} {as : List SV} {a b c : SV} {v : Value}
theorem EvX.setdef {D : Addr} {i : Nat} {kvs : List (Str × Value)} {k : Str} {e : Expr} (hy : lkS y f = some (.val (.ref D))) (lo : (D == sysModules) = false) (hm : n[i]? = some (D, oKv w kvs)) (hk : kvs.length ≤ big) (d : Ev C kp f n e (.txt k)) (old : ∀ v E, valueAt kvs k = some v → R (.val v) ((E, oLst []) :: n)) (new : ∀ E, valueAt kvs k = none → R (.val (.ref E)) ((E, oLst []) :: n.set i (D, oKv w (stored kvs k (.ref E)))))
    (hloc : autoParam (isLoc cs y = true) tR) (s1 : autoParam (isStar e = false) tR)
    (he : ∃ pl, eval (.Call (.Attribute (.Name y p2) "setdefault" p3) [e, .List [] p4] [] pos) C.env = (do
         let ov ← eval (.Name y p2) C.env
         standAt p3.atName
         let (f, first) ← holding [ov] (getMethod ov "setdefault" pl)
         callWith pos f first (backTo pos (starEach [e, .List [] p4] C.env)) []) := by exact ⟨_, rfl⟩) : EvX C kp f n (.Call (.Attribute (.Name y p2) "setdefault" p3) [e, .List [] p4] [] pos) R := fun _ _ _ S q =>
  MethodCall_ (ev_name hy hloc _ _ _ S fun _ h1 t1 e0 S1 => by
    cases e0
    obtain ⟨m, news, F, _, N, at', _, _⟩ := S1.use
    obtain ⟨o, h2, h3⟩ := at' _ _ (List.mem_of_getElem? hm)
    have hD := kda_dict (s := C.at h1 t1) N h2 h3
    refine getMethod_builtin hD.typeIs PySem.F.plainAttrs_dict PySem.F.slot_dict_setdefault PySem.F.type_dict_setdefault hD.mapOf.noDict ?_
    refine callWith_method1 (args_cons (d _ _ _ S1 fun _ h5 t5 ⟨_, u, e1⟩ S5 => args_cons ((EvX.list (.nil fun E => ⟨E, rfl, rfl⟩) : EvX C kp f n _ (fun a n' => ∃ E, a = .val (.ref E) ∧ n' = (E, oLst []) :: n)) _ _ _ S5 fun v a n' h6 t6 hr ha S6 => args_nil ?_) rfl) (star_not s1)) (star_not s1) rfl
    obtain ⟨E, rfl, rfl⟩ := hr
    subst e1; cases ha
    obtain ⟨m, news, o, g', F, _, N, hP, hmem, U, _, close⟩ := S6.open (i := i + 1) (show ((E, oLst []) :: n)[i + 1]? = _ from hm)
    cases hv : valueAt kvs k with
    | some v => exact kob_setdef_there (s := C.at h6 t6) (knd := PySem.strKind _ _) N hmem hP lo (strKind_is _ _ _ _) (PySem.F.args_dict_setdefault_3 _ _ _) hv (small_list hk) (q _ _ _ h6 _ (old v E hv) rfl S6)
    | none => exact kob_setdef_new (s := C.at h6 t6) (knd := PySem.strKind _ _) F N U hP lo (strKind_is _ _ _ _) (PySem.F.args_dict_setdefault_3 _ _ _) hv (small_list hk) fun h9 o9 F9 N9 hs9 => q _ _ _ h9 _ (new E hv) rfl (close (oKv w _) o9 h9 hs9 F9 N9)) he.choose_spec
theorem g_forE {e : Expr} {body : List Stmt} {ts : List Expr} {tk : Nat} {tp : Pos} {xi xe : Str} {X : Str} (d : Ev C kp f n e (.txt X)) (J : Nat → α → Prop) (fr : Nat → α → SF) (ow : Nat → α → SL) (a₀ : α) (hj : J 0 a₀)
    (turn : ∀ (i : Nat) (c : Nat) b own, X.cps.toList[i]? = some c → J i b → ∀ Q', (∀ fl s', LPost C (own ++ kp) J fr ow (i + 1) (Seq C Q rest) fl s' → Q' fl s') → G C (own ++ kp) ((xe, .txt ⟨#[c]⟩) :: (xi, .num i) :: fr i b) (ow i b) Q' body)
    (done : ∀ b, J X.length b → G C kp (fr X.length b) (ow X.length b) Q rest) (hn : autoParam (namesOf ts = some [xi, xe]) tR) (hl : autoParam ([xi, xe].all (isLoc cs) = true) tR) (hg : autoParam (isGlo cs "enumerate" = true) tR) (hs : autoParam (isStar e = false) tR) (ef : autoParam (fr 0 a₀ = f) tR) (en : autoParam (ow 0 a₀ = n) tR) :
    G C kp f n Q (.For (.Tuple ts tk tp) (.Call (.Name "enumerate" p3) [e] [] p4) body [] pos :: rest) := .mk fun h t S => by
  subst ef en
  obtain ⟨m0, F0, _⟩ := S.fr
  refine wpAny_execs_cons (For_turns F0 (Call_ (ev_B no_sdef rfl (by decide) hg (by decide) _ _ _ S fun _ _ _ e0 S0 => ?_) (by cases e <;> rfl)) (fun _ => by cases e <;> rfl) C.hE)
  cases e0
  refine PySem.Pv.callWith_type1 (args_cons (d _ _ _ S0 fun _ h1 t1 ⟨_, u, e1⟩ S1 => args_nil ?_) (star_not hs)) (star_not hs) rfl
  subst e1
  obtain ⟨m, F, R⟩ := S1.fr
  obtain ⟨nw, N, K⟩ := S1.nw
  refine iter_enumStr (s := C.at h1 t1) (fun i => LpI (J i) (fr i) (ow i) kp) C.hh F N ⟨a₀, nw, hj, R, rfl, K, S1.nd, S1.off⟩ ?_ ?_
  · intro i c T tt u m₁ news₁ h tk own hc hT hoff hJ F N
    refine hide fun Z kZ => ?_
    obtain ⟨a, nw, hj, R, rfl, K, nd, off⟩ := hJ
    refine kZ ?_
    clear kZ
    have Nm : News C.s.heap C.L h (nw ++ (own ++ kp)) := fun p hp => N p (by
      rcases List.mem_append.mp hp with hp | hp
      · exact List.mem_append_left _ (List.mem_append_left _ hp)
      · rcases List.mem_append.mp hp with hp | hp
        · exact List.mem_append_right _ hp
        · exact List.mem_append_left _ (List.mem_append_right _ hp))
    have offs : ∀ p ∈ own ++ kp, p.1 ∉ (ow i a).map (·.1) := fun p hp hm => by
      rcases List.mem_append.mp hp with hp | hp
      · rw [K.addrs] at hm
        obtain ⟨q, hq, e⟩ := List.mem_map.mp hm
        exact hoff p hp q.1 (List.mem_map.mpr ⟨q, List.mem_append_left _ hq, rfl⟩) e.symm
      · exact off p hp hm
    have hln : ([.num i, .txt ⟨#[c]⟩] : List SV).length = [xi, xe].length := rfl
    refine unpackN_ (s := C.at h tk) F Nm hT C.hh (by rw [(names_len hn).1]; rfl) (names_len hn).2 fun h2 F2 N2 => ?_
    refine st_order (as := [.num i, .txt ⟨#[c]⟩]) hn hl ⟨⟨_, rfl⟩, ⟨by show 1 ≤ big; decide, _, rfl⟩, trivial⟩ hln (.mk' F2 R N2 K nd offs) fun h3 t3 S3 => ?_
    refine wpAny_mono ((turn i c a own hc hj (LPost C (own ++ kp) J fr ow (i + 1) (Seq C Q rest)) fun _ _ q => q).run h3 t3 S3) (fun fl s' q => ?_) fun _ _ e => e
    have fin : (∃ h' t b, s' = C.at h' t ∧ C.St (own ++ kp) (fr (i + 1) b) (ow (i + 1) b) h' ∧ J (i + 1) b) → InvEndG C.s.heap C.L (LpI (J (i + 1)) (fr (i + 1)) (ow (i + 1)) kp) own (C.at h tk) s' := fun ⟨h', t', b, e, S', hj'⟩ => by
      obtain ⟨m', F', R'⟩ := S'.fr
      obtain ⟨nw', N', K'⟩ := S'.nw
      subst e
      refine InvEndG.intro (nx := nw' ++ kp) F' N' ⟨b, nw', hj', R', rfl, K', S'.nd, fun p hp => S'.off p (List.mem_append_right _ hp)⟩ (fun p hp q hq e => ?_) (fun p hp => ?_) fun p hp => List.mem_append_right _ (List.mem_append_left _ hp)
      · obtain ⟨q', hq', rfl⟩ := List.mem_map.mp hq
        rcases List.mem_append.mp hq' with hq' | hq'
        · exact S'.off p (List.mem_append_left _ hp) (by rw [e, K'.addrs]; exact List.mem_map.mpr ⟨q', hq', rfl⟩)
        · exact hoff p hp q'.1 (List.mem_map.mpr ⟨q', List.mem_append_right _ hq', rfl⟩) e
      · rcases List.mem_append.mp hp with hp | hp
        · exact List.mem_append_left _ hp
        · exact List.mem_append_right _ (List.mem_append_right _ hp)
    exact match fl, q with
      | .ret v, q => q
      | .brk, q => q
      | .next, q => fin q
      | .cont, q => fin q
  · intro m₁ news₁ h tk hJ F N
    obtain ⟨a, nw, hj, R, rfl, K, nd, off⟩ := hJ
    exact (done a hj).run h tk (.mk' F R N K nd off)
end
end
section
open PySem PySem.W PySem.Calls PySem.Spec PyProof PyProof.Rows
local macro_rules | `(tactic| walk_at "getMethod type:tuple") => `(tactic| (k_here; refine' method_type ?F ?X ?m (by decide +kernel) ?e ?h ?_; (case F => k_asm); (case X => k_asm); (case m => (first | rfl | kernel_rfl)); (case e => k_dflt k_is); (case h => k_handed)))
local macro_rules | `(tactic| walk_at "call type:type") => `(tactic| (refine stop_of ?_))
local macro_rules | `(tactic| walk_at "call builtin:issubclass") => `(tactic| (refine stop_of ?_))
local macro_rules | `(tactic| walk_at "call builtin:tuple.__getitem__") => `(tactic| (refine stop_of ?_))
section
variable {prog : Program} {w : World} {A : Around} {E : Value → Shared → Prop} {s : Shared}
theorem getitem_M {r : Addr} {items : Array Value} {i : Int} {t : Tok} {k : Nat} {y : Value} {Q : Value → Shared → Prop} (Y : MCls (model prog w) s.heap) (hr : IsM s.heap r items) (h1 : 0 ≤ i) (h2 : i < 100) (hk : seqIndex? i items.size = some k) (hy : items[k]? = some y) (h : Q y s) :
    wpAny (model prog w) A (call (.builtin "tuple.__getitem__") [.ref r, .int i t]) Q E s := by
  obtain ⟨o, ho, hc, n, hd⟩ := id hr
  refine call_sub (n := "__getitem__") (by decide +kernel) (by decide +kernel) (by decide +kernel) PySem.F.entry_tuple_getitem (hr.inst Y) (PySem.F.args_tuple_getitem_2 _ _) ?_
  obtain ⟨hp, g, d, tk, os⟩ := s
  have f1 := PySem.AutoSeq1.idx_int
  have hf : ¬ (decide (i < -2 ^ 63) || decide (i ≥ 2 ^ 63)) = true := by simp; lia
  unfold Builtin.«tuple.__getitem__»
  wp_walk using (wpAny_seqItems ho hd)
  simp only [hk, hy, Option.bind_some]
  refine wpAny_ite_false (by simp; lia) ?_
  wp_walk
  exact ⟨_, rfl, h⟩
end
theorem issub_meets : Meets (Builtin.«issubclass» ⟨[.ref 206, .type "tuple"], []⟩) (fun _ R s => (∀ M, TupCls M s.heap 206) ∧ R (.ok (.ret (.bool true))) s) := fun prog w A R s hs => issubclass_outer (by
  obtain ⟨hY, hR⟩ := hs
  have Y := hY (model prog w)
  have h1 := Y.sub
  have h2 := Y.typ
  obtain ⟨hp, g, d, tk, os⟩ := s
  have h3 : typeOf (.type "tuple") = pure (.type "type") := by rfl
  have h4 : isType (.type "tuple") = pure true := by rfl
  dsimp only at h1 h2 hR
  unfold Builtin.«issubclass.nested»
  refine wpAny_bind (wpAny_of_eq h3 ?_)
  rw [if_pos (by decide)]
  repeat (first | exact hR | lk)
  all_goals trace_state)
set_option maxRecDepth 100000 in
set_option maxHeartbeats 4000000 in
theorem t_get0 (w : World) : PySem.Challenge.rw_ik0097_01 = PySem.Challenge.rw_ik0097_01 → Kx = Kx → ∀ (r : Addr) (a b c : Value),
    Pur w 114 [.ref 195, .ref r, .ref 206] 4 70 (fun h => IsM h r #[a, b, c]) (fun h v h' => v = a) := by
  k_fill
  intro _ _ r a b c
  (k_dflt (refine' pur_intro (by lia) ?k6 ?k7 ?k9 ?kB ?_ ?c2 ?c3 ?c4 ?c5; (case k6 => k_is); (case k7 => k_is); (case k9 => (intro _ Xb; first | exact BindsTo.of_eq rfl | exact binds_K (by k_in) rfl (by k_is) rfl rfl rfl)); (case c5 => decide); (case kB => exact locs rfl); (case c2 => exact rfl); (case c3 => exact rfl); (case c4 => exact rfl)); k_whole; intro dp un gd env outer base mean mg mb s E L' h₁ tk hd hu hP F1 N2 B X T; (try dsimp only); (try k_fold))
  have F2 := fr_as F1 (m' := fun (y : Str) => List.lookup y [("objtype", Value.ref 206), ("obj", Value.ref r), ("self", Value.ref 195)]) (by intro y; kernel_rfl)
  clear F1
  simp only [lk_cons, lk_nil] at F2
  (repeat' (first | (k_unfold; (try dsimp only)) | walk1 | (dsimp only; walk1) | (leave1; (try dsimp only)) | fail "no step"))
  refine Stop.mk ?_
  (rename Fr s.heap L' _ _ => F3)
  have hP1 : IsM _ r #[a, b, c] := hP.keep fun o e => F3.keep _ _ e
  refine hide fun xX9 kX9 => ?_
  obtain ⟨o, ho, hc, n, hdat⟩ := id hP1
  refine kX9 ?_
  clear kX9 xX9
  refine call_type_obj ho (by rw [hc]; decide) ?_
  rw [hc]
  (repeat' (first | (k_unfold; (try dsimp only)) | walk1 | (dsimp only; walk1) | (leave1; (try dsimp only)) | fail "no step"))
  refine Stop.mk ?_
  (rename Fr s.heap L' _ _ => F4)
  have hY : tupIn (Kx w.params) 206 = true := by kernel_rfl
  refine call_issubclass issub_meets ⟨fun M => tup_of (X.keeps F4.keep) hY, ?_⟩
  (repeat' (first | (k_unfold; (try dsimp only)) | walk1 | (dsimp only; walk1) | (leave1; (try dsimp only)) | fail "no step"))
  refine Stop.mk ?_
  (rename Fr s.heap L' _ _ => F5)
  have hP2 : IsM _ r #[a, b, c] := hP.keep fun o e => F5.keep _ _ e
  have Y := mcls_of w rfl rfl s.heap X
  refine getitem_M (k := 0) ⟨Y.iter.keeps F5.keep, Y.lt.keeps F5.keep, Y.len.keeps F5.keep, Y.sub.keeps F5.keep⟩ hP2 (by decide) (by decide) (by rfl) (by rfl) ?_
  exact PEnd.intro F5 rfl
set_option maxRecDepth 100000 in
set_option maxHeartbeats 4000000 in
theorem t_get1 (w : World) : PySem.Challenge.rw_ik0097_01 = PySem.Challenge.rw_ik0097_01 → Kx = Kx → ∀ (r : Addr) (a b c : Value),
    Pur w 114 [.ref 198, .ref r, .ref 206] 4 70 (fun h => IsM h r #[a, b, c]) (fun h v h' => v = b) := by
  k_fill
  intro _ _ r a b c
  (k_dflt (refine' pur_intro (by lia) ?k6 ?k7 ?k9 ?kB ?_ ?c2 ?c3 ?c4 ?c5; (case k6 => k_is); (case k7 => k_is); (case k9 => (intro _ Xb; first | exact BindsTo.of_eq rfl | exact binds_K (by k_in) rfl (by k_is) rfl rfl rfl)); (case c5 => decide); (case kB => exact locs rfl); (case c2 => exact rfl); (case c3 => exact rfl); (case c4 => exact rfl)); k_whole; intro dp un gd env outer base mean mg mb s E L' h₁ tk hd hu hP F1 N2 B X T; (try dsimp only); (try k_fold))
  have F2 := fr_as F1 (m' := fun (y : Str) => List.lookup y [("objtype", Value.ref 206), ("obj", Value.ref r), ("self", Value.ref 198)]) (by intro y; kernel_rfl)
  clear F1
  simp only [lk_cons, lk_nil] at F2
  (repeat' (first | (k_unfold; (try dsimp only)) | walk1 | (dsimp only; walk1) | (leave1; (try dsimp only)) | fail "no step"))
  refine Stop.mk ?_
  (rename Fr s.heap L' _ _ => F3)
  have hP1 : IsM _ r #[a, b, c] := hP.keep fun o e => F3.keep _ _ e
  refine hide fun xX9 kX9 => ?_
  obtain ⟨o, ho, hc, n, hdat⟩ := id hP1
  refine kX9 ?_
  clear kX9 xX9
  refine call_type_obj ho (by rw [hc]; decide) ?_
  rw [hc]
  (repeat' (first | (k_unfold; (try dsimp only)) | walk1 | (dsimp only; walk1) | (leave1; (try dsimp only)) | fail "no step"))
  refine Stop.mk ?_
  (rename Fr s.heap L' _ _ => F4)
  have hY : tupIn (Kx w.params) 206 = true := by kernel_rfl
  refine call_issubclass issub_meets ⟨fun M => tup_of (X.keeps F4.keep) hY, ?_⟩
  (repeat' (first | (k_unfold; (try dsimp only)) | walk1 | (dsimp only; walk1) | (leave1; (try dsimp only)) | fail "no step"))
  refine Stop.mk ?_
  (rename Fr s.heap L' _ _ => F5)
  have hP2 : IsM _ r #[a, b, c] := hP.keep fun o e => F5.keep _ _ e
  have Y := mcls_of w rfl rfl s.heap X
  refine getitem_M (k := 1) ⟨Y.iter.keeps F5.keep, Y.lt.keeps F5.keep, Y.len.keeps F5.keep, Y.sub.keeps F5.keep⟩ hP2 (by decide) (by decide) (by rfl) (by rfl) ?_
  exact PEnd.intro F5 rfl
set_option maxRecDepth 100000 in
set_option maxHeartbeats 4000000 in
theorem t_get2 (w : World) : PySem.Challenge.rw_ik0097_01 = PySem.Challenge.rw_ik0097_01 → Kx = Kx → ∀ (r : Addr) (a b c : Value),
    Pur w 114 [.ref 201, .ref r, .ref 206] 4 70 (fun h => IsM h r #[a, b, c]) (fun h v h' => v = c) := by
  k_fill
  intro _ _ r a b c
  (k_dflt (refine' pur_intro (by lia) ?k6 ?k7 ?k9 ?kB ?_ ?c2 ?c3 ?c4 ?c5; (case k6 => k_is); (case k7 => k_is); (case k9 => (intro _ Xb; first | exact BindsTo.of_eq rfl | exact binds_K (by k_in) rfl (by k_is) rfl rfl rfl)); (case c5 => decide); (case kB => exact locs rfl); (case c2 => exact rfl); (case c3 => exact rfl); (case c4 => exact rfl)); k_whole; intro dp un gd env outer base mean mg mb s E L' h₁ tk hd hu hP F1 N2 B X T; (try dsimp only); (try k_fold))
  have F2 := fr_as F1 (m' := fun (y : Str) => List.lookup y [("objtype", Value.ref 206), ("obj", Value.ref r), ("self", Value.ref 201)]) (by intro y; kernel_rfl)
  clear F1
  simp only [lk_cons, lk_nil] at F2
  (repeat' (first | (k_unfold; (try dsimp only)) | walk1 | (dsimp only; walk1) | (leave1; (try dsimp only)) | fail "no step"))
  refine Stop.mk ?_
  (rename Fr s.heap L' _ _ => F3)
  have hP1 : IsM _ r #[a, b, c] := hP.keep fun o e => F3.keep _ _ e
  refine hide fun xX9 kX9 => ?_
  obtain ⟨o, ho, hc, n, hdat⟩ := id hP1
  refine kX9 ?_
  clear kX9 xX9
  refine call_type_obj ho (by rw [hc]; decide) ?_
  rw [hc]
  (repeat' (first | (k_unfold; (try dsimp only)) | walk1 | (dsimp only; walk1) | (leave1; (try dsimp only)) | fail "no step"))
  refine Stop.mk ?_
  (rename Fr s.heap L' _ _ => F4)
  have hY : tupIn (Kx w.params) 206 = true := by kernel_rfl
  refine call_issubclass issub_meets ⟨fun M => tup_of (X.keeps F4.keep) hY, ?_⟩
  (repeat' (first | (k_unfold; (try dsimp only)) | walk1 | (dsimp only; walk1) | (leave1; (try dsimp only)) | fail "no step"))
  refine Stop.mk ?_
  (rename Fr s.heap L' _ _ => F5)
  have hP2 : IsM _ r #[a, b, c] := hP.keep fun o e => F5.keep _ _ e
  have Y := mcls_of w rfl rfl s.heap X
  refine getitem_M (k := 2) ⟨Y.iter.keeps F5.keep, Y.lt.keeps F5.keep, Y.len.keeps F5.keep, Y.sub.keeps F5.keep⟩ hP2 (by decide) (by decide) (by rfl) (by rfl) ?_
  exact PEnd.intro F5 rfl
end
section
open PySem PySem.W PySem.Calls PySem.Spec PyProof PyProof.Rows
set_option maxRecDepth 100000
section
variable {prog : Program} {w : World} {A : Around} {E : Value → Shared → Prop} {s : Shared} {K : Frag} {x C : Addr} {ox : Obj} {od : Option Obj} {name : Str} {expr : Bool} {Q : Value → Shared → Prop}
theorem entry_tga : entryFor table "tuple.__getattribute__" = some Builtin.«object.__getattribute__» :=
  entryFor_alias (id' := "object.__getattribute__") (by kernel_rfl) (by decide +kernel) (by decide +kernel) (by kernel_rfl)
theorem get_bindT {g a : Value} (X : K.In s.heap) (I : InstAt s.heap x ox C od) (hga : findIn K (.ref C) "__getattribute__" = some (some (.builtin "tuple.__getattribute__")))
    (hi : Looks (model prog w) s.heap (isSubtype (.ref C) (.type "tuple")) true) (hf : findObj K C od name = some (.bind g a)) (hk : findIn K (.ref C) "__getattr__" = some none)
    (h : wpAny (model prog w) A.in1 (call g [a, .ref x, .ref C]) (fun v s' => wpAny (model prog w) A (handedOut v) Q E s') (fun _ _ => False) { s with toks := s.toks + 1 }) :
    wpAny (model prog w) A (getAttr (.ref x) name expr) Q E s := by
  obtain ⟨hh, gg, d, t, os⟩ := s
  have L0 := I.type (M := model prog w)
  have L1 := looks_findIn (M := model prog w) X hga
  have L2 := looks_findIn (M := model prog w) X hk
  have L3 := looks_find (M := model prog w) X I hf
  unfold getAttr getAttrBy
  refine wpAny_bind (wpAny_mkText (wpAny_holding (wpAny_bind (L0.at (wpAny_bind (L1.at ?_))))))
  (try dsimp only)
  rw [show (onTheHeap (.ref C) && Value.builtin "tuple.__getattribute__" == Value.builtin "object.__getattribute__") = false from by rw [show (Value.builtin "tuple.__getattribute__" == Value.builtin "object.__getattribute__") = false from by decide +kernel, Bool.and_false], if_neg (by decide)]
  unfold getAttrByItsOwn
  refine wpAny_bind ((show Looks (model prog w) hh (hookBefore (.ref C)) none from L2).at (wpAny_bind (wpAny_attempt (wpAny_holding ?_))))
  unfold callGetattribute
  rw [show (expr && onTheHeap (Value.builtin "tuple.__getattribute__")) = false from Bool.and_false _, if_neg (by decide)]
  unfold boundAndCalled
  rw [PySem.F.slot_tuple_getattribute.bind]
  refine wpAny_bind (wpAny_pure ?_)
  show wpAny _ _ (call (.builtin "tuple.__getattribute__") [.ref x, .str name t]) _ _ _
  refine call_sub (s := ⟨hh, gg, d, t + 1, os⟩) (n := "__getattribute__") (by decide +kernel) (by decide +kernel) (by decide +kernel) entry_tga (L0.andThen hi) (PySem.F.args_tuple_getattribute_2 _ _) ?_
  unfold Builtin.«object.__getattribute__»
  refine wpAny_bind (wpAny_of_eq (a := (.ref x, [.str name t])) rfl ?_)
  refine wpAny_bind (wpAny_of_eq (a := name) rfl ?_)
  refine wpAny_bind (L0.at (wpAny_bind (L3.at ?_)))
  show wpAny _ _ (holding [a] (call g [a, .ref x, .ref C]) >>= ret) _ _ _
  refine wpAny_bind (wpAny_holding (wpAny_mono h (fun v s' z => wpAny_pure ⟨v, rfl, z⟩) fun _ _ z => False.elim z))
end
theorem get_a (w : World) : PySem.Challenge.rw_ik0097_01 = PySem.Challenge.rw_ik0097_01 → Kx = Kx → ∀ {A : Around} {E : Value → Shared → Prop} {s : Shared} {h₀ : Heap} {L : Addr} {m : Str → Option Value} {r : Addr} {a b c : Value} {dx : Addr} {expr : Bool} {Q : Value → Shared → Prop}
    (S : Site w A h₀ L s.heap m) (hd : A.depth + 4 < recursionLimit) (hu : A.units + 71 < cLine) (X : (Kx w.params).In s.heap) (hr : s.heap.get? r = some (matchObj a b c dx)) (hdx : s.heap.get? dx = some emptyD) (ha : handedIn a = true)
    (h : ∀ h' tk, s.heap.StaysIn h' → Fr h₀ L h' m → Q a { s with heap := h', toks := tk }), wpAny (model pw w) A (getAttr (.ref r) "a" expr) Q E s := by
  k_fill
  intro _ _ A E s h₀ L m r a b c dx expr Q S hd hu X hr hdx ha h
  have e1 : findIn (Kx w.params) (.ref 206) "__getattribute__" = some (some (.builtin "tuple.__getattribute__")) := by k_dflt k_is
  have e2 : findIn (Kx w.params) (.ref 206) "__getattr__" = some none := by k_dflt k_is
  have e3 : findIn (Kx w.params) (.ref 206) "a" = some (some (.ref 195)) := by k_dflt k_is
  have e4 : specialIn (Kx w.params) (.ref 195) "__get__" = some (some (.ref 114)) := by k_dflt k_is
  have e5 : takesIn (Kx w.params) (.ref 195) = some true := by k_dflt k_is
  have hY := (mcls_of w rfl rfl _ X).sub
  have e6 : isClsIn (Kx w.params) 206 = true := by k_dflt k_is
  refine get_bindT (ox := matchObj a b c dx) (od := some emptyD) X ⟨hr, rfl, rfl, hdx⟩ e1 hY (findObj_data e6 e3 e4 e5) e2 ?_
  refine pur_use (t_get0 w rfl rfl r a b c) (⟨S.hh, S.fr, S.at'⟩ : Site w A.in1 h₀ L s.heap m) hd (by show A.units + 1 + 70 < cLine; lia) ⟨_, hr, rfl, _, rfl⟩ ?_
  rintro _ h' tk' hs F rfl
  exact handed_on ha (h h' tk' hs F)
theorem get_b (w : World) : PySem.Challenge.rw_ik0097_01 = PySem.Challenge.rw_ik0097_01 → Kx = Kx → ∀ {A : Around} {E : Value → Shared → Prop} {s : Shared} {h₀ : Heap} {L : Addr} {m : Str → Option Value} {r : Addr} {a b c : Value} {dx : Addr} {expr : Bool} {Q : Value → Shared → Prop}
    (S : Site w A h₀ L s.heap m) (hd : A.depth + 4 < recursionLimit) (hu : A.units + 71 < cLine) (X : (Kx w.params).In s.heap) (hr : s.heap.get? r = some (matchObj a b c dx)) (hdx : s.heap.get? dx = some emptyD) (ha : handedIn b = true)
    (h : ∀ h' tk, s.heap.StaysIn h' → Fr h₀ L h' m → Q b { s with heap := h', toks := tk }), wpAny (model pw w) A (getAttr (.ref r) "b" expr) Q E s := by
  k_fill
  intro _ _ A E s h₀ L m r a b c dx expr Q S hd hu X hr hdx ha h
  have e1 : findIn (Kx w.params) (.ref 206) "__getattribute__" = some (some (.builtin "tuple.__getattribute__")) := by k_dflt k_is
  have e2 : findIn (Kx w.params) (.ref 206) "__getattr__" = some none := by k_dflt k_is
  have e3 : findIn (Kx w.params) (.ref 206) "b" = some (some (.ref 198)) := by k_dflt k_is
  have e4 : specialIn (Kx w.params) (.ref 198) "__get__" = some (some (.ref 114)) := by k_dflt k_is
  have e5 : takesIn (Kx w.params) (.ref 198) = some true := by k_dflt k_is
  have hY := (mcls_of w rfl rfl _ X).sub
  have e6 : isClsIn (Kx w.params) 206 = true := by k_dflt k_is
  refine get_bindT (ox := matchObj a b c dx) (od := some emptyD) X ⟨hr, rfl, rfl, hdx⟩ e1 hY (findObj_data e6 e3 e4 e5) e2 ?_
  refine pur_use (t_get1 w rfl rfl r a b c) (⟨S.hh, S.fr, S.at'⟩ : Site w A.in1 h₀ L s.heap m) hd (by show A.units + 1 + 70 < cLine; lia) ⟨_, hr, rfl, _, rfl⟩ ?_
  rintro _ h' tk' hs F rfl
  exact handed_on ha (h h' tk' hs F)
theorem get_size (w : World) : PySem.Challenge.rw_ik0097_01 = PySem.Challenge.rw_ik0097_01 → Kx = Kx → ∀ {A : Around} {E : Value → Shared → Prop} {s : Shared} {h₀ : Heap} {L : Addr} {m : Str → Option Value} {r : Addr} {a b c : Value} {dx : Addr} {expr : Bool} {Q : Value → Shared → Prop}
    (S : Site w A h₀ L s.heap m) (hd : A.depth + 4 < recursionLimit) (hu : A.units + 71 < cLine) (X : (Kx w.params).In s.heap) (hr : s.heap.get? r = some (matchObj a b c dx)) (hdx : s.heap.get? dx = some emptyD) (ha : handedIn c = true)
    (h : ∀ h' tk, s.heap.StaysIn h' → Fr h₀ L h' m → Q c { s with heap := h', toks := tk }), wpAny (model pw w) A (getAttr (.ref r) "size" expr) Q E s := by
  k_fill
  intro _ _ A E s h₀ L m r a b c dx expr Q S hd hu X hr hdx ha h
  have e1 : findIn (Kx w.params) (.ref 206) "__getattribute__" = some (some (.builtin "tuple.__getattribute__")) := by k_dflt k_is
  have e2 : findIn (Kx w.params) (.ref 206) "__getattr__" = some none := by k_dflt k_is
  have e3 : findIn (Kx w.params) (.ref 206) "size" = some (some (.ref 201)) := by k_dflt k_is
  have e4 : specialIn (Kx w.params) (.ref 201) "__get__" = some (some (.ref 114)) := by k_dflt k_is
  have e5 : takesIn (Kx w.params) (.ref 201) = some true := by k_dflt k_is
  have hY := (mcls_of w rfl rfl _ X).sub
  have e6 : isClsIn (Kx w.params) 206 = true := by k_dflt k_is
  refine get_bindT (ox := matchObj a b c dx) (od := some emptyD) X ⟨hr, rfl, rfl, hdx⟩ e1 hY (findObj_data e6 e3 e4 e5) e2 ?_
  refine pur_use (t_get2 w rfl rfl r a b c) (⟨S.hh, S.fr, S.at'⟩ : Site w A.in1 h₀ L s.heap m) hd (by show A.units + 1 + 70 < cLine; lia) ⟨_, hr, rfl, _, rfl⟩ ?_
  rintro _ h' tk' hs F rfl
  exact handed_on ha (h h' tk' hs F)
end
section
open PySem PySem.W PySem.Calls PySem.Spec PyProof PyProof.Rows PyProof.Rows.LCg
set_option maxRecDepth 100000
section
variable {prog : Program} {w : World} {A : Around} {E : Value → Shared → Prop} {s : Shared} {env : Env} {h₀ : Heap} {L : Addr} {m : Str → Option Value}
end
end
section
open PySem PySem.W PySem.Calls PySem.Spec PyProof PyProof.Rows
section
variable {prog : Program} {w : World} {A : Around} {E : Value → Shared → Prop} {s : Shared} {Q : Value → Shared → Prop} {a b : Value} {d : PyData} {as bs : List Addr}
theorem ne_same (ra : Reads s.heap a d as) (rb : Reads s.heap b d bs) (sh : SeqAt.shaped d = true) (hu : A.units + 64 < cLine) (h : Q (.bool false) s) : wpAny (model prog w) A (compareOp .NotEq a b) Q E s :=
  ne_dataH ra rb sh sh hu (by rw [SeqAt.eqv_refl d (SeqAt.canLay_of_shaped sh)]; exact h)
theorem eq_same (ra : Reads s.heap a d as) (rb : Reads s.heap b d bs) (sh : SeqAt.shaped d = true) (hu : A.units + 64 < cLine) (h : Q (.bool true) s) : wpAny (model prog w) A (compareOp .Eq a b) Q E s :=
  eq_dataH ra rb sh sh hu (by rw [SeqAt.eqv_refl d (SeqAt.canLay_of_shaped sh)]; exact h)
end
noncomputable def tupD (b : Nat × Nat × Nat) : PyData := .tuple [.int b.1, .int b.2.1, .int b.2.2]
theorem reads_tups {h : Heap} : ∀ {vs : List Value} {bl : List (Nat × Nat × Nat)}, TupsAt h vs bl → ∃ as, ReadsAll h vs (bl.map tupD) as
  | [], [], _ => ⟨_, .nil⟩
  | _ :: _, _ :: _, ⟨⟨a, x, y, z, e1, e2⟩, T⟩ => by
    obtain ⟨as, r⟩ := reads_tups T
    rw [e1]
    exact ⟨_, .cons (.tuple e2 rfl rfl (.cons (.int _ _) (.cons (.int _ _) (.cons (.int _ _) .nil)))) r⟩
  | [], _ :: _, T => T.elim
  | _ :: _, [], T => T.elim
theorem lay_tups : ∀ bl : List (Nat × Nat × Nat), PyData.canLayAll0 (bl.map tupD) = true ∧ PyData.depthAll (bl.map tupD) ≤ 1
  | [] => by simp [PyData.canLayAll0, PyData.depthAll]
  | b :: bl => by
    obtain ⟨h1, h2⟩ := lay_tups bl
    simp only [List.map_cons, tupD, PyData.canLayAll0, PyData.canLay0, PyData.depthAll, PyData.depth, Bool.and_true, Bool.true_and] at h1 h2 ⊢
    exact ⟨h1, by lia⟩
theorem shaped_tups (bl : List (Nat × Nat × Nat)) : SeqAt.shaped (.list (bl.map tupD)) = true := by
  obtain ⟨h1, h2⟩ := lay_tups bl
  simp only [SeqAt.shaped, PyData.canLay0, PyData.depth, h1, Bool.true_and]
  exact decide_eq_true (by lia)
noncomputable def strD (x : List Nat) : PyData := .str ⟨x.toArray⟩
theorem reads_strs {h : Heap} : ∀ {vs : List Value} {xs : List (List Nat)}, StrsOf vs xs → ∃ as, ReadsAll h vs (xs.map strD) as
  | [], [], _ => ⟨_, .nil⟩
  | _ :: _, _ :: _, ⟨⟨t, e⟩, T⟩ => by
    obtain ⟨as, r⟩ := reads_strs T
    rw [e]
    exact ⟨_, .cons (.str _ _) r⟩
  | [], _ :: _, T => T.elim
  | _ :: _, [], T => T.elim
theorem lay_strs : ∀ xs : List (List Nat), (∀ x ∈ xs, ∀ z ∈ x, z < 0x110000) → PyData.canLayAll0 (xs.map strD) = true ∧ PyData.depthAll (xs.map strD) ≤ 1
  | [], _ => by simp [PyData.canLayAll0, PyData.depthAll]
  | x :: xs, h => by
    obtain ⟨h1, h2⟩ := lay_strs xs fun y hy => h y (.tail _ hy)
    have hx : PyData.strOk ⟨x.toArray⟩ = true := by
      simp only [PyData.strOk, List.all_toArray, List.all_eq_true, decide_eq_true_eq]
      exact h x (.head _)
    simp only [List.map_cons, strD, PyData.canLayAll0, PyData.canLay0, PyData.depthAll, PyData.depth, hx, Bool.true_and] at h1 h2 ⊢
    exact ⟨h1, by lia⟩
theorem shaped_strs {xs : List (List Nat)} (h : ∀ x ∈ xs, ∀ z ∈ x, z < 0x110000) : SeqAt.shaped (.list (xs.map strD)) = true := by
  obtain ⟨h1, h2⟩ := lay_strs xs h
  simp only [SeqAt.shaped, PyData.canLay0, PyData.depth, h1, Bool.true_and]
  exact decide_eq_true (by lia)
theorem reads_bools {h : Heap} : ∀ bs : List Bool, ∃ as, ReadsAll h (bs.map Value.bool) (bs.map PyData.bool) as
  | [] => ⟨_, .nil⟩
  | b :: bs => by
    obtain ⟨as, r⟩ := reads_bools (h := h) bs
    exact ⟨_, .cons (.bool _) r⟩
theorem shaped_bools : ∀ bs : List Bool, PyData.canLayAll0 (bs.map PyData.bool) = true ∧ PyData.depthAll (bs.map PyData.bool) ≤ 1
  | [] => by simp [PyData.canLayAll0, PyData.depthAll]
  | b :: bs => by
    obtain ⟨h1, h2⟩ := shaped_bools bs
    simp only [List.map_cons, PyData.canLayAll0, PyData.canLay0, PyData.depthAll, PyData.depth, Bool.true_and] at h1 h2 ⊢
    exact ⟨h1, by lia⟩
theorem shapedB (bs : List Bool) : SeqAt.shaped (.list (bs.map PyData.bool)) = true := by
  obtain ⟨h1, h2⟩ := shaped_bools bs
  simp only [SeqAt.shaped, PyData.canLay0, PyData.depth, h1, Bool.true_and]
  exact decide_eq_true (by lia)
end
section
open PySem PySem.W PySem.Calls PySem.Spec PyProof PyProof.Rows
def Reads1 (h : Heap) (r : Addr) (d : PyData) : Prop := ∃ as, Reads h (.ref r) d as
noncomputable def tupN : List Addr → List (Nat × Nat × Nat) → SL
  | A :: as, b :: bl => (A, o3 b) :: tupN as bl
  | _, _ => []
theorem tupN_snoc {A : Addr} {b : Nat × Nat × Nat} : ∀ {as : List Addr} {bl : List (Nat × Nat × Nat)}, bl[as.length]? = some b → tupN (as ++ [A]) bl = tupN as bl ++ [(A, o3 b)]
  | [], c :: bl, h => by cases h; rfl
  | _ :: as, c :: bl, h => congrArg _ (tupN_snoc (as := as) (bl := bl) h)
  | [], [], h => nomatch h
  | _ :: as, [], h => nomatch h
theorem tupN_at {h : Heap} : ∀ {as : List Addr} {bl : List (Nat × Nat × Nat)}, as.length = bl.length → (∀ p ∈ tupN as bl, ∃ o, h.get? p.1 = some o ∧ p.2 o) → TupsAt h (as.map Value.ref) bl
  | [], [], _, _ => trivial
  | A :: as, b :: bl, e, H => by
    obtain ⟨o, h1, h2⟩ := H _ (.head _)
    obtain ⟨x, y, z, rfl⟩ := o3_is h2
    exact ⟨⟨A, x, y, z, rfl, h1⟩, tupN_at (Nat.succ.inj e) fun p hp => H p (.tail _ hp)⟩
  | [], _ :: _, e, _ => nomatch e
  | _ :: _, [], e, _ => nomatch e
theorem bools_of : ∀ {bs : List Bool} {vs : List Value}, AllIs (bs.map fun b => SV.val (.bool b)) vs → vs = bs.map Value.bool
  | [], [], _ => rfl
  | b :: bs, v :: vs, h => by rw [show v = .bool b from h.1, bools_of h.2]; rfl
  | [], _ :: _, h => h.elim
  | _ :: _, [], h => h.elim
theorem no_chr {p : Params} : nsIn (Kx p) mainGlobals "chr" = some none := by kernel_rfl
def GetR (w : World) (attr : Str) (sel : Value → Value → Value → Value) : Prop := ∀ {A : Around} {E : Value → Shared → Prop} {s : Shared} {h₀ : Heap} {L : Addr} {m : Str → Option Value} {r : Addr} {a b c : Value} {dx : Addr} {expr : Bool} {Q : Value → Shared → Prop}
    (S : Site w A h₀ L s.heap m) (hd : A.depth + 4 < recursionLimit) (hu : A.units + 71 < cLine) (X : (Kx w.params).In s.heap) (hr : s.heap.get? r = some (matchObj a b c dx)) (hdx : s.heap.get? dx = some emptyD) (ha : handedIn (sel a b c) = true)
    (h : ∀ h' tk, s.heap.StaysIn h' → Fr h₀ L h' m → Q (sel a b c) { s with heap := h', toks := tk }), wpAny (model pw w) A (getAttr (.ref r) attr expr) Q E s
section
variable {w : World} {cs : Scope} {md : Bool} {C : CxU w cs md} {kp : List (Addr × Obj)} {f g : SF} {n : SL} {Q : Flow → Shared → Prop} {x y : Str} {pos p2 p3 p4 p5 p6 : Pos} {rest : List Stmt} {α : Type} {R : SV → SL → Prop} {r : Addr} {as : List SV} {a b c : SV} {v : Value}
theorem EvX.to {e : Expr} (n' : SL) (hp : Pick n' n) (d : EvX C kp f n' e R) : EvX C kp f n e R := fun Q h t S q => d Q h t (S.pick hp) q
theorem rd_of {xs : List PyData} {vs : List Value} {h : Heap} {k : Nat} {as : List Addr} (hg : h.get? r = some (PySem.W.listOf vs.toArray k)) (ra : ReadsAll h vs xs as) : Reads1 h r (.list xs) := ⟨_, .list hg rfl rfl ra⟩
theorem rd_strs {xs : List (List Nat)} {h : Heap} (hm : (r, oLst (xs.map sx)) ∈ n) (S : C.St kp f n h) : Reads1 h r (.list (xs.map strD)) := by
  obtain ⟨o, h1, ⟨us, k, has, rfl⟩, _⟩ := S.at' hm
  obtain ⟨as, ra⟩ := reads_strs (h := h) (strs_of has)
  exact rd_of h1 ra
theorem rd_bools {bs : List Bool} {h : Heap} (hm : (r, oLst (bs.map fun b => .val (.bool b))) ∈ n) (S : C.St kp f n h) : Reads1 h r (.list (bs.map PyData.bool)) := by
  obtain ⟨o, h1, ⟨us, k, has, rfl⟩, _⟩ := S.at' hm
  obtain ⟨as, ra⟩ := reads_bools (h := h) bs
  exact rd_of h1 (bools_of has ▸ ra)
theorem rd_tups {vs : List Value} {bl : List (Nat × Nat × Nat)} {h : Heap} (hm : (r, oLst (vs.map .val)) ∈ n) (hT : TupsAt h vs bl) (S : C.St kp f n h) : Reads1 h r (.list (bl.map tupD)) := by
  obtain ⟨o, h1, ho, _⟩ := S.at' hm
  obtain ⟨k, rfl⟩ := oLst_vals ho
  obtain ⟨as, ra⟩ := reads_tups hT
  exact rd_of h1 ra
inductive SameE (C : CxU w cs md) (kp : List (Addr × Obj)) (f : SF) (n : SL) (a b : SV) (n2 : SL) : Prop
  | mk (r1 r2 : Addr) (d : PyData) (e1 : a = .val (.ref r1)) (e2 : b = .val (.ref r2)) (h1 : ∀ h, C.St kp f n2 h → Reads1 h r1 d ∧ Reads1 h r2 d) (hs : SeqAt.shaped d = true) (hp : Pick n n2)
theorem tst_neSame {l r' : Expr} (d : EvX C kp f n l (fun a n1 => EvX C kp f n1 r' (SameE C kp f n a))) (hu : C.A.units + 64 < cLine) : Tst C kp f n (.Compare l [.NotEq] [r'] pos) False := fun _ _ _ S q =>
  wpAny_isTrue_Compare1 (d _ _ _ S fun u a n1 h1 t1 hr ha S1 => hr _ _ _ S1 fun v b n2 h2 t2 hr2 hb S2 => by
    obtain ⟨r1, r2, d, rfl, rfl, hR, hs, hp⟩ := hr2
    cases ha; cases hb
    obtain ⟨⟨as, ra⟩, ⟨bs, rb⟩⟩ := hR _ S2
    exact ne_same (s := C.at h2 t2) ra rb hs hu (wpAny_truthy_bool (q _ _ _ ⟨fun h => Bool.noConfusion h, fun h => h.elim⟩ (S2.pick hp)))) (marks_not (by decide) (by decide))
theorem EvX.eqSame {l r' : Expr} (d : EvX C kp f n l (fun a n1 => EvX C kp f n1 r' (fun b n2 => SameE C kp f n a b n2))) (hu : C.A.units + 64 < cLine) (k : R (.val (.bool true)) n) : EvX C kp f n (.Compare l [.Eq] [r'] pos) R := fun _ _ _ S q =>
  wpAny_Compare1 (d _ _ _ S fun u a n1 h1 t1 hr ha S1 => hr _ _ _ S1 fun v b n2 h2 t2 hr2 hb S2 => by
    obtain ⟨r1, r2, d, rfl, rfl, hR, hs, hp⟩ := hr2
    cases ha; cases hb
    obtain ⟨⟨as, ra⟩, ⟨bs, rb⟩⟩ := hR _ S2
    exact eq_same (s := C.at h2 t2) ra rb hs hu (q _ _ _ _ _ k rfl (S2.pick hp))) (marks_not (by decide) (by decide))
theorem tst_neNum {l r' : Expr} {i j : Int} (d : EvX C kp f n l (fun a n1 => a = .num i ∧ Ev C kp f n1 r' (.num j) ∧ Pick n n1)) : Tst C kp f n (.Compare l [.NotEq] [r'] pos) (¬ i = j) := fun _ _ _ S q =>
  wpAny_isTrue_Compare1 (d _ _ _ S fun u a n1 h1 t1 ⟨e, hr, hp⟩ ha S1 => by
    subst e
    exact hr _ _ _ S1 fun v h2 t2 ⟨_, e2⟩ S2 => by
      obtain ⟨_, rfl⟩ := ha
      subst e2
      exact ne_int (wpAny_truthy_bool (q _ _ _ bne_iff_ne (S2.pick hp)))) (marks_not (by decide) (by decide))
theorem EvX.lenL {e : Expr} (d : EvX C kp f n e (fun a n' => ∃ r as, a = .val (.ref r) ∧ LstAt C kp f n' r as ∧ as.length ≤ 16384 ∧ R (.num as.length) n')) (hg : autoParam (isGlo cs "len" = true) tR) (hs : autoParam (isStar e = false) tR) : EvX C kp f n (.Call (.Name "len" p2) [e] [] pos) R := fun _ _ _ S q =>
  Call_ (ev_B no_len' rfl (by decide) hg (by decide) _ _ _ S fun _ _ _ e0 S0 => by
    cases e0
    refine callWith_builtin1 (args_cons (d _ _ _ S0 fun _ a n1 h1 t1 hr ha S1 => args_nil ?_) (star_not hs)) (star_not hs) rfl
    obtain ⟨r, as, rfl, hl, hk, hR⟩ := hr
    cases ha
    obtain ⟨vs, h2, h3⟩ := hl _ S1
    exact kun_lenL (s := C.at h1 t1) h3 (by rw [List.size_toArray, h2.length]) (by lia) (q _ _ _ _ _ hR ⟨_, rfl⟩ S1)) (by cases e <;> rfl)
theorem ev_chr {e : Expr} {z : Nat} (d : Ev C kp f n e (.num z)) (hz : z < 256) (hg : autoParam (isGlo cs "chr" = true) tR) (hs : autoParam (isStar e = false) tR) : Ev C kp f n (.Call (.Name "chr" p2) [e] [] pos) (sx [z]) := fun _ _ _ S q =>
  Call_ (ev_B no_chr rfl (by decide) hg (by decide) _ _ _ S fun _ _ _ e0 S0 => by
    cases e0
    refine callWith_builtin1 (args_cons (d _ _ _ S0 fun _ h1 t1 ⟨_, e1⟩ S1 => args_nil ?_) (star_not hs)) (star_not hs) rfl
    subst e1
    exact chr_of_range (Int.natCast_nonneg _) (by lia) (q _ _ _ ⟨by show 1 ≤ big; decide, _, rfl⟩ S1)) (by cases e <;> rfl)
theorem EvX.getM {attr : Str} {sel : Value → Value → Value → Value} {u v z : Value} {dx : Addr} (gt : GetR w attr sel) (d : Ev C kp f n (.Name y p2) (.val (.ref r))) (hm : (r, oEq (matchObj u v z dx)) ∈ n) (hdx : (dx, oEq emptyD) ∈ n) (hd : C.A.depth + 4 < recursionLimit) (hu : C.A.units + 71 < cLine) (hh : handedIn (sel u v z) = true) (ha : a.Is (sel u v z)) (k : R a n) : EvX C kp f n (.Attribute (.Name y p2) attr pos) R := fun _ _ _ S q =>
  Attribute_Name_ (d _ _ _ S fun _ h1 t1 e0 S1 => by
    cases e0
    obtain ⟨m, X, _⟩ := S1.site
    obtain ⟨o1, g1, e1, _⟩ := S1.at' hm
    obtain ⟨o2, g2, e2, _⟩ := S1.at' hdx
    cases e1; cases e2
    exact gt (s := C.at h1 t1) X hd hu ((C_in C).1.keeps X.fr.keep) g1 g2 hh fun h' tk hs F' => q _ _ _ h' tk k ha (by
      have := S1.adds (m := m) (hb := h1) (h' := h') (new := []) (fun a o _ e => e) hs .nil
      exact this))
end
section
variable {w : World} {cs : Scope} {C : CxU w cs true} {kp : List (Addr × Obj)} {f g : SF} {n : SL} {Q : Flow → Shared → Prop} {x y : Str} {pos p2 p3 p4 p5 p6 : Pos} {rest : List Stmt} {α : Type} {R : SV → SL → Prop} {r : Addr} {as : List SV} {a b c : SV} {v : Value}
def GAs (C : CxU w cs true) (kp : List (Addr × Obj)) : SF → SL → List Expr → List SV → (SF → SL → Prop) → Prop
  | f, n, [], [], K => K f n
  | f, n, t :: ts, a :: as, K => GA C kp f n a t (fun f' n' => GAs C kp f' n' ts as K)
  | _, _, _, _, _ => False
theorem st_gas : ∀ {ts : List Expr} {as : List SV} {vs : List Value} {f : SF} {n : SL} {K : SF → SL → Prop} {Q : Unit → Shared → Prop} {h : Heap} {t : Nat}, GAs C kp f n ts as K → AllIs as vs → C.St kp f n h → (∀ f' n' h' t', K f' n' → C.St kp f' n' h' → Q () (C.at h' t')) → wpAny (model pw w) C.A (assignInOrder (ts.map fun t => assign t C.env) vs) Q C.E (C.at h t)
  | [], [], [], _, _, _, _, _, _, hk, _, S, q => assignInOrder_nil (q _ _ _ _ hk S)
  | _ :: _, _ :: _, _ :: _, _, _, _, _, _, _, hk, ha, S, q => assignInOrder_cons (hk _ _ _ _ ha.1 S fun f' n' h' t' hk' S' => st_gas hk' ha.2 S' q)
  | _, [], _ :: _, _, _, _, _, _, _, _, ha, _, _ => ha.elim
  | _, _ :: _, [], _, _, _, _, _, _, _, ha, _, _ => ha.elim
  | [], _ :: _, _, _, _, _, _, _, _, hk, _, _, _ => hk.elim
  | _ :: _, [], _, _, _, _, _, _, _, hk, _, _, _ => hk.elim
theorem gt_gas {T : Addr} {P : Obj → Prop} {as : List SV} {ts : List Expr} {k : Nat} {tp : Pos} {body : List Stmt} (hm : (T, P) ∈ n) (hP : ∀ o, P o → oTup as o) (g : GAs C kp f n ts as (fun f' n' => G C kp f' n' Q body)) (he : autoParam ((assignEach ts C.env).map (·.2) = ts.map (fun t => assign t C.env)) tR) (hs : autoParam ((assignEach ts C.env).findIdx? (·.1) = none) tR) (hlen : autoParam (as.length = (assignEach ts C.env).length) tR) :
    GT C kp f n (.val (.ref T)) (.Tuple ts k tp) Q body := fun v h t ha S => by
  cases ha
  obtain ⟨m, news, F, R1, N, at', _, same⟩ := S.use
  obtain ⟨o, g1, g2⟩ := at' _ _ hm
  obtain ⟨vs, has, rfl⟩ := hP o g2
  refine unpackN_ (s := C.at h t) F N ⟨_, N.get g1, rfl, 0, rfl⟩ C.hh (by rw [← hlen, ← has.length, List.size_toArray]) hs fun h2 F2 N2 => ?_
  rw [he]
  exact st_gas g has (same h2 F2 N2) fun f' n' h3 t3 k3 S3 => k3.run h3 t3 S3
end

theorem gr_a (w : World) : GetR w "a" fun a _ _ => a := fun S hd hu X hr hdx ha h => get_a w rfl rfl S hd hu X hr hdx ha h
theorem gr_b (w : World) : GetR w "b" fun _ b _ => b := fun S hd hu X hr hdx ha h => get_b w rfl rfl S hd hu X hr hdx ha h
theorem gr_size (w : World) : GetR w "size" fun _ _ c => c := fun S hd hu X hr hdx ha h => get_size w rfl rfl S hd hu X hr hdx ha h
end
section
open PySem PySem.W PySem.Calls PySem.Spec PyProof PyProof.Rows
noncomputable def fF (st r : Addr) : SF := [("star", .val (.ref st)), ("parts", .val (.ref r))]
noncomputable def nFt (c2 c3 D : Addr) (g : Str) (E : List Nat) : SL := [(D, oLst ((nI E).map .num)), (c2, oCell (.val (.ref D))), (c3, oCell (.txt g))]
noncomputable def nFs (c1 c2 c3 D : Addr) (g : Str) (x : List Nat) : SL := [(c1, oCell (sx x)), (c2, oCell (.val (.ref D))), (c3, oCell (.txt g))]
noncomputable def nF (c1 c2 c3 D : Addr) (g : Str) (E : List Nat) : SL := (c1, oCellU) :: nFt c2 c3 D g E
noncomputable def pF (E : List Nat) (e : Nat) : Bool := !E.isEmpty && decide (E.headD 0 ≤ e)
noncomputable def qF (g : Str) (x : List Nat) (e : Nat) : Bool := decide (e < g.cps.toList.length) && (x == escM (g.cps.toList.getD e 0))
noncomputable def bR (E : List Nat) (j : Nat) : List SV := (nI ((List.range j).filter (pF E))).map .num
noncomputable def bS (g : Str) (x E : List Nat) (j : Nat) : List SV := (nI (((E.take j).filter (qF g x)).map (· + 1))).map .num
theorem bR_t {E : List Nat} {j : Nat} (h : pF E j = true) : bR E (j + 1) = bR E j ++ [.num j] := by
  unfold bR nI; rw [filter_range_t h, List.map_append, List.map_append]; rfl
theorem bR_f {E : List Nat} {j : Nat} (h : ¬ pF E j = true) : bR E (j + 1) = bR E j := by
  unfold bR nI; rw [filter_range_f (Bool.eq_false_iff.mpr h)]
theorem bS_t {g : Str} {x E : List Nat} {j e : Nat} (hj : E[j]? = some e) (h : qF g x e = true) : bS g x E (j + 1) = bS g x E j ++ [.num ((e : Int) + 1)] := by
  unfold bS nI; rw [filter_take_t hj h, List.map_append, List.map_append, List.map_append]; rfl
theorem bS_f {g : Str} {x E : List Nat} {j e : Nat} (hj : E[j]? = some e) (h : ¬ qF g x e = true) : bS g x E (j + 1) = bS g x E j := by
  unfold bS nI; rw [filter_take_f hj (Bool.eq_false_iff.mpr h)]
theorem pF_iff {E : List Nat} {j : Nat} : (nI E ≠ [] ∧ ((E.headD 0 : Nat) : Int) ≤ j ∧ True) ↔ pF E j = true := by
  unfold pF nI
  cases E with
  | nil => exact ⟨fun h => absurd rfl h.1, fun h => nomatch h⟩
  | cons e E => rw [and_true, Int.ofNat_le]; exact ⟨fun h => decide_eq_true h.2, fun h => ⟨fun h => (nomatch h), of_decide_eq_true h⟩⟩
theorem head_is {E : List Nat} (h : nI E ≠ []) : ((nI E).map SV.num)[Int.toNat 0]? = some (.num ((E.headD 0 : Nat) : Int)) := by
  cases E with
  | nil => exact absurd rfl h
  | cons _ _ => rfl
theorem qF_iff {g : Str} {x : List Nat} {e : Nat} : ((e : Int) < (g.length : Int) ∧ (⟨x.toArray⟩ : Str) = ⟨(escM (g.cps.toList.getD e 0)).toArray⟩ ∧ True) ↔ qF g x e = true := by
  unfold qF
  rw [length_toList, and_true, Int.ofNat_lt, Bool.and_eq_true, decide_eq_true_iff, beq_iff_eq]
  exact ⟨fun h => ⟨h.1, by injection h.2 with h2; injection h2⟩, fun h => ⟨h.1, by rw [h.2]⟩⟩
theorem fits_in {g : Str} {ps : List (Option (List Nat))} : (nI (endsM g.cps.toList ps)).any (· == (g.length : Int)) = fitsM g.cps.toList ps := by
  unfold fitsM nI
  rw [length_toList, List.any_map, Bool.eq_iff_iff, List.any_eq_true, List.contains_iff_mem]
  exact ⟨fun ⟨e, h, h2⟩ => Int.ofNat.inj (beq_iff_eq.mp h2) ▸ h, fun h => ⟨_, h, beq_iff_eq.mpr rfl⟩⟩
theorem fits_none {g : Str} {E : List Nat} : endsStep g.cps.toList E none = (List.range (g.length + 1)).filter (pF E) := by
  unfold endsStep; rw [length_toList]; rfl
set_option maxRecDepth 100000 in
set_option maxHeartbeats 800000 in
theorem t_fits (w : World) : PySem.Challenge.rw_ik0097_01 = PySem.Challenge.rw_ik0097_01 → Kx = Kx → ∀ (r st : Addr) (ps : List (Option (List Nat))) (g : Str) (t : Tok), g.length ≤ 16 → ps.length ≤ 30 → (∀ p, some p ∈ ps → p.length ≤ 2) →
    Pur w 355 [.ref r, .ref st, .str g t] 3 100 (fun h => LstIn h r (ps.map (pv st))) (fun h v h' => v = .bool (fitsM g.cps.toList ps)) := by
  k_fill
  intro _ _ r st ps g t hg hlen hpl
  (k_dflt (refine' pur_SC (sp := ?sp) (by first | decide | lia) ?k6 ?k7 ?k9 ?kB ?kD ?hf0 ?hsp ?hcm ?_ ?c2 ?c3 ?c4; (case k6 => k_is); (case k7 => k_is); (case k9 => (intro _ Xb; first | exact BindsTo.of_eq rfl | exact binds_K (by k_in) rfl (by k_is) rfl rfl rfl)); (case kB => exact rfl); (case kD => decide +kernel); (case c2 => exact rfl); (case c3 => exact rfl); (case c4 => exact rfl)); k_whole)
  case hf0 =>
    refine (?_ : AllF _ [("star", .val (.ref st)), ("parts", .val (.ref r))])
    exact ⟨⟨_, rfl, rfl⟩, ⟨_, rfl, rfl⟩, trivial⟩
  case sp => exact [("part", none), ("ends", none), ("text", some (.txt g))]
  case hsp => rfl
  case hcm => exact ⟨rfl, rfl, ⟨_, rfl, Nat.le_trans hg (by decide), _, rfl⟩, trivial⟩
  intro C hD hU ⟨vs, has, hP⟩ ad hl hcl Q hQ
  obtain ⟨c1, c2, c3, rfl⟩ : ∃ c1 c2 c3, ad = [c1, c2, c3] := match ad, hl with | [a, b, c], _ => ⟨a, b, c, rfl⟩
  refine g_setC (c := c2) (i := 2) (P := oCell0) (by rw [hcl]; rfl) (fun _ => oCell0.is) (.list (.v fun D => ⟨rfl, ?_⟩))
  refine g_to (fF st r) (nF c1 c2 c3 D g [0]) (.trans (.head fun _ => oCell0.is) (.i [1, 0, 2, 3] (by kernel_rfl))) ?_ (by kernel_rfl)
  refine g_forT (.v ⟨r, rfl, overT_base (α := Addr) hP has (fun _ _ => True) (fun _ _ => fF st r) (fun i D => nF c1 c2 c3 D g (endsM g.cps.toList (ps.take i))) D trivial (fun i D c own gs hc _ Q2 q2 => ?_) (fun D _ => ?_)⟩)
  · have hg2 : (C.re gs).cl = ([("part", c1), ("ends", c2), ("text", c3)] : List (Str × Addr)) := hcl
    refine gt_cell (c := c1) (i := 0) (P := oCellU) (by rw [hg2]; rfl) rfl (fun _ h => h) ?_
    rw [List.getElem?_map] at hc
    obtain ⟨p, hp, rfl⟩ := Option.map_eq_some_iff.mp hc
    have hE : endsM g.cps.toList (ps.take (i + 1)) = endsStep g.cps.toList (endsM g.cps.toList (ps.take i)) p := by rw [endsM, take_succ_of hp, List.foldl_append]; rfl
    have hl : (endsM g.cps.toList (ps.take i)).length ≤ 17 := Nat.le_trans (endsM_len g.cps.toList (ps.take i) [0] (Nat.le_add_left 1 _)) (by rw [length_toList]; exact Nat.succ_le_succ hg)
    generalize endsM g.cps.toList (ps.take i) = E at hE hl
    cases p with
    | none =>
      refine g_ifT (p := True) (tst_isSame (ev_cell (c := c1) (by rw [hg2]; rfl) (.head _) rfl) ev) (fun _ => ?_) (fun h => absurd trivial h)
      refine g_setC (c := c2) (i := 3) (P := oCell (.val (.ref D))) (by rw [hg2]; rfl) (fun _ => oCell.is) (.compT (cl := [("ends", c2)]) (g := [("ends", .val (.ref D))]) (.range1 (k := ((g.length + 1 : Nat) : Int)) (evc (orc_cells (g := [("text", .txt g)]) ⟨⟨c3, by show C.cl.lookup _ = _; rw [hcl]; rfl, by k_mem⟩, trivial⟩)) fun rr => ?_) (by unfold CxU.env; rw [hg2]; with_unfolding_all rfl)) (hs := by with_unfolding_all rfl)
      refine .u _ (g.length + 1) _ _ (bR E) ( fun _ => (c1, oCell (.val (.ref st))) :: nFt c2 c3 D g E) (.range (by lia)) .rfl rfl (fun j C' kp' hj T => ?_) (fun D2 => ⟨rfl, ?_⟩)
      · have O := T.orc ((c1, oCell (.val (.ref st))) :: nFt c2 c3 D g E) ⟨⟨c2, rfl, by k_mem⟩, trivial⟩
        have hu : C'.A.units + 64 < cLine := by rw [T.hA]; show C.A.units + 64 < cLine; lia
        exact ⟨_, tst_use (TstW.t (tstW_and (tst_neNil (ns := nI E) (evc O) (.own (by k_mem)) hu) fun hne => tstW_and (tst_op (b := .num ((E.headD 0 : Nat) : Int)) (evc O) (ev_itemL (evc O) (.own (by k_mem)) ev_int (by decide) (by decide) (head_is hne))) fun _ => tstW_nil)) pF_iff, fun hp => .o O ⟨.rfl, bR_t hp⟩, fun hp => ⟨.rfl, bR_f hp⟩⟩
      · refine g_seq (g_nnext q2 D2 (.trans (b := (c1, oCell (.val (.ref st))) :: nFt c2 c3 D2 g (endsM g.cps.toList (ps.take (i + 1)))) (.head fun _ => oCell.is) (.i [1, 0, 3, 4] (by rw [hE, fits_none]; kernel_rfl))) trivial (by kernel_rfl))
    | some x =>
      refine g_ifT (p := False) (tst_isTxt (z := ⟨x.toArray⟩) (ev_cell (c := c1) (by rw [hg2]; rfl) (.head _) rfl) ev) (fun h => h.elim) (fun _ => ?_)
      refine g_to (fF st r) ((D, oLst ((nI E).map .num)) :: nFs c1 c2 c3 D g x) (.i [1, 0, 2, 3] (by kernel_rfl)) ?_ (by kernel_rfl)
      refine g_setC (c := c2) (i := 3) (P := oCell (.val (.ref D))) (by rw [hg2]; rfl) (fun _ => oCell.is) (.compT (cl := [("text", c3), ("part", c1)]) (g := [("text", .txt g), ("part", sx x)]) ((ev_cell (c := c2) (by rw [hg2]; rfl) (by k_mem) rfl).x ?_) (by unfold CxU.env; rw [hg2]; with_unfolding_all rfl)) (hs := by with_unfolding_all rfl)
      refine .u _ _ _ _ (bS g x E) (fun _ => nFs c1 c2 c3 D g x) (.own (fun _ h => h) ?_) .rfl rfl (fun j C' kp' hj T => ?_) (fun D2 => ⟨rfl, ?_⟩)
      · unfold nI; rw [List.length_map, List.length_map]; exact Nat.le_trans hl (by decide)
      · have O := T.orc (nFs c1 c2 c3 D g x) ⟨⟨c3, rfl, by k_mem⟩, ⟨c1, rfl, by k_mem⟩, trivial⟩
        unfold nI at hj
        rw [List.length_map, List.length_map] at hj
        obtain ⟨e, he⟩ : ∃ e, E[j]? = some e := ⟨_, List.getElem?_eq_getElem hj⟩
        rw [show (((nI E).map SV.num)[j]?).getD (.val .none) = .num (e : Int) by unfold nI; rw [List.getElem?_map, List.getElem?_map, he]; rfl] at O
        exact ⟨_, tst_use (TstW.t (tstW_and (tstc O) fun h1 => tstW_and (tst_op (b := .txt ⟨(escM (g.cps.toList.getD e 0)).toArray⟩) (evc O) (ev_if (tstc O (hp := by exact ⟨by decide, ⟨by lia, h1⟩, trivial⟩)) (fun h => esc_t h ▸ evc O (hp := by exact ⟨by decide, trivial⟩)) fun h => esc_f h ▸ evc O (hp := by exact ⟨⟨by lia, h1⟩, trivial⟩))) fun _ => tstW_nil)) qF_iff, fun hp => .o O ⟨.rfl, bS_t he hp⟩, fun hp => ⟨.rfl, bS_f he hp⟩⟩
      · have hb : bS g x E ((nI E).map SV.num).length = (nI (endsM g.cps.toList (ps.take (i + 1)))).map .num := by
          rw [hE]; unfold bS nI; rw [List.length_map, List.length_map, List.take_length]; rfl
        refine g_seq (g_nnext q2 D2 (.trans (b := (c1, oCell (sx x)) :: nFt c2 c3 D2 g (endsM g.cps.toList (ps.take (i + 1)))) (.head fun _ => oCell.is) (.i [2, 1, 3, 4] (by rw [hb]; kernel_rfl))) trivial (by kernel_rfl))
  · rw [List.length_map, List.take_length]
    refine g_retX ((ev_inInts (evc (orc_cells (g := [("text", .txt g)]) ⟨⟨c3, by rw [hcl]; rfl, by k_mem⟩, trivial⟩)) (ev_cell (c := c2) (by rw [hcl]; rfl) (by k_mem) rfl) (.own (by k_mem))).x fun v h t hv S => (hQ _ _ _ _ _ _ S ?_).1)
    rw [show v = _ from hv, fits_in]
end
section
open PySem PySem.W PySem.Calls PySem.Spec PyProof PyProof.Rows
noncomputable def lA (f g : SV) (mb : List (Str × SV)) : List (Str × SV) := ("isjunk", .val .none) :: ("a", f) :: ("b", g) :: ("autojunk", .val (.bool true)) :: mb
noncomputable def lB : List (Str × SV) := [("matching_blocks", .val .none), ("opcodes", .val .none)]
noncomputable def lD : List (Str × SV) := [("matching_blocks", .val .none), ("opcodes", .val .none), ("fullbcount", .val .none)]
noncomputable def lC (b2 jk pp : Addr) : List (Str × SV) := [("matching_blocks", .val .none), ("opcodes", .val .none), ("fullbcount", .val .none), ("b2j", .val (.ref b2)), ("bjunk", .val (.ref jk)), ("bpopular", .val (.ref pp))]
noncomputable def lM (f g : Str) (b2 jk pp : Addr) : List (Str × SV) := lA (.txt f) (.txt g) (lC b2 jk pp)
inductive DicR (x d : Addr) (F : Obj → Prop) (h : Heap) (v : Value) (h' : Heap) : Prop
  | mk (e : v = .none) (hn : NewC h h' [(x, oEq (instObj 313 d)), (d, F)])
structure SmT (g : Str) (T : List (Nat × Addr)) : Prop where
  fKeys : (T.map (·.1)).Nodup
  fHas : ∀ i, i < g.length → ∀ c, g.cps.toList[i]? = some c → ∃ r ∈ T, r.1 = c
structure TGr (g : Str) (n : Nat) (T : List (Nat × Addr)) : Prop where
  fKeys : (T.map (·.1)).Nodup
  fHas : ∀ i, i < n → ∀ c, g.cps.toList[i]? = some c → ∃ r ∈ T, r.1 = c
  fLen : T.length ≤ n
inductive ChainR (w : World) (f g : Str) (x d : Addr) (h : Heap) (v : Value) (h' : Heap) : Prop
  | mk (e : v = .none) (b2 jk pp : Addr) (T : List (Nat × Addr)) (hn : NewC h h' ((x, oEq (instObj 313 d)) :: (d, oAtt w.params (lM f g b2 jk pp)) :: (b2, oKv w (kvT T)) :: (jk, oSet0 w) :: rowsN g.cps.toList g.length T)) (hT : SmT g T) (lo : (b2 == sysModules) = false)
theorem newC_of {w : World} {cs : Scope} {C : Cx w cs} {kp : List (Addr × Obj)} {f : SF} {n : SL} {h : Heap} (S : C.St kp f n h) : NewC C.s.heap h n := ⟨fun p hp => by
  obtain ⟨o, h1, h2, _, h3⟩ := S.at' (show (p.1, p.2) ∈ n from hp)
  exact ⟨h3, o, h1, h2⟩, S.nd⟩
section
variable {w : World} {cs : Scope} {C : CxU w cs true} {kp : List (Addr × Obj)} {f : SF} {n : SL} {Q : Flow → Shared → Prop} {pos p2 : Pos} {rest : List Stmt}
theorem tst_truth {e : Expr} {b : Bool} (d : Ev C kp f n e (.val (.bool b))) (hp : ∀ whole, isTrue e C.env whole = (do let v ← whole; standAt e.pos; holding [v] (truthy v)) := by exact fun _ => rfl) : Tst C kp f n e (b = true) := fun _ _ _ S q =>
  isTrue_plain (d _ _ _ S fun _ _ _ e S1 => by cases e; exact wpAny_truthy_bool (q _ _ _ Iff.rfl S1)) (hp _)
theorem tst_isTxtV {l r' : Expr} {z : Str} (h1 : Ev C kp f n l (.txt z)) (h2 : Ev C kp f n r' (.val .none)) : Tst C kp f n (.Compare l [.Is] [r'] pos) False :=
  tst_cmp h1 h2 (by decide) (by decide) fun u v s Q ⟨_, _, e1⟩ e2 k => by subst e1; cases e2; exact wpAny_is_other (by rfl) (by intro x; cases x) (k _ ⟨fun h => Bool.noConfusion h, fun h => h.elim⟩)
theorem EvX.meth0 {e : Expr} {g : Str} {c fa : Addr} {R : SV → SL → Prop} (d0 : EvX C kp f n e (fun a n1 => ∃ X d P, a = .val (.ref X) ∧ (X, oEq (instObj c d)) ∈ n1 ∧ (d, P) ∈ n1 ∧ (∀ o, P o → ∃ ds k, o = dictOf ds k ∧ getL g ds = some none) ∧ OwnE C kp f n1 fa [.ref X] R)) (hm : methIn w.params c g fa = true)
    (he : ∃ pl, eval (.Call (.Attribute e g p2) [] [] pos) C.env = (do
         let ov ← eval e C.env
         standAt p2.atName
         let (f, first) ← holding [ov] (getMethod ov g pl)
         callWith pos f first (backTo pos (starEach [] C.env)) []) := by exact ⟨_, rfl⟩) : EvX C kp f n (.Call (.Attribute e g p2) [] [] pos) R := fun _ _ _ S q =>
  MethodCall_ (d0 _ _ _ S fun v a n1 h0 t0 hr ha S0 => by
    obtain ⟨X, d, P, rfl, hx, hd, hP, own, keep, D, U, P', Rp, u⟩ := hr
    cases ha
    obtain ⟨m, F, _⟩ := S0.fr
    obtain ⟨o1, g1, e1, _⟩ := S0.at' hx
    obtain ⟨o2, g2, e2, _⟩ := S0.at' hd
    cases e1
    obtain ⟨ds, k, rfl, hl⟩ := hP _ e2
    unfold methIn at hm
    rw [Bool.and_eq_true, Bool.and_eq_true, Bool.and_eq_true] at hm
    refine method_inst (s := C.at h0 t0) F (C_in C).1 ⟨g1, rfl, rfl, g2⟩ hm.1.1.1 (beq_iff_eq.mp hm.1.1.2) hm.1.2 hl ?_
    exact callWith_K0 ((C_in C).1.keeps F.keep) hm.2 (st_own S0 u fun v a n' h' t' hR ha S' => q v a n' h' t' hR ha S')) he.choose_spec
theorem none_stays {h g : Heap} {b : Addr} (hs : h.StaysIn g) (hb : g.get? b = none) : h.get? b = none := by
  cases e : h.get? b with
  | none => rfl
  | some o => have := hs _ _ e; rw [hb] at this; cases this
theorem NewC.mono {h g h' : Heap} {new : SL} (hs : h.StaysIn g) (hn : NewC g h' new) : NewC h h' new := ⟨fun p hp => ⟨none_stays hs (hn.at' p hp).1, (hn.at' p hp).2⟩, hn.nd⟩
theorem g_expr {e : Expr} (d : EvX C kp f n e (fun a n' => a = .val .none ∧ G C kp f n' Q rest)) (hi : autoParam (interactive C.env = false) tR) (hs : autoParam (isComp e = false) tR) : G C kp f n Q (.Expr e pos :: rest) := .mk fun h t S =>
  wpAny_execs_cons (wpAny_Expr (d _ h t S fun v a n' h1 t1 hr ha S1 => by
    obtain ⟨rfl, hr⟩ := hr
    cases ha
    exact hr.run h1 t1 S1) hi (swaps_not hs))
end
noncomputable def fCh (g : Str) (x b2 : Addr) : SF := [("b2j", .val (.ref b2)), ("b", .txt g), ("self", .val (.ref x))]
noncomputable def bCh (w : World) (f g : Str) (x d b2 : Addr) (T : List (Nat × Addr)) : SL := [(b2, oKv w (kvT T)), (x, oEq (instObj 313 d)), (d, oAtt w.params (setA "b2j" (.val (.ref b2)) (lA (.txt f) (.txt g) lD)))]
noncomputable def nCh (w : World) (f g : Str) (x d b2 : Addr) (n : Nat) (T : List (Nat × Addr)) : SL := bCh w f g x d b2 T ++ rowsN g.cps.toList n T
theorem pk1 {B R1 R2 : SL} {e r : Addr × (Obj → Prop)} : Pick (r :: (B ++ (R1 ++ R2))) (e :: (B ++ (R1 ++ r :: R2))) :=
  .trans (b := B ++ (R1 ++ r :: R2)) (.perm (by rw [← List.append_assoc, ← List.append_assoc]; exact List.perm_middle.symm)) (.drop (l := [e]))
theorem pk2 {B R1 R2 : SL} {r : Addr × (Obj → Prop)} : Pick (B ++ (R1 ++ r :: R2)) (r :: (B ++ (R1 ++ R2))) :=
  .perm (by rw [← List.append_assoc, ← List.append_assoc]; exact List.perm_middle)
theorem pk3 {B R : SL} {r : Addr × (Obj → Prop)} : Pick (B ++ (R ++ [r])) (r :: (B ++ R)) :=
  .perm (by rw [← List.append_assoc]; exact List.perm_append_singleton _ _)
theorem occS_nil {g : Str} {n c : Nat} {T : List (Nat × Addr)} (h : TGr g n T) (hno : ∀ r ∈ T, r.1 ≠ c) : occS g.cps.toList n c = [] := by
  unfold occS nI occ
  rw [List.filter_eq_nil_iff.mpr fun i hi hc => ?_]
  · rfl
  · obtain ⟨r, hr, e⟩ := h.fHas i (List.mem_range.mp hi) c (beq_iff_eq.mp hc)
    exact hno r hr e
theorem TGr.has {g : Str} {n c : Nat} {T T' : List (Nat × Addr)} (h : TGr g n T) (hc : g.cps.toList[n]? = some c) (hs : ∀ r ∈ T, r ∈ T') (hin : ∃ r ∈ T', r.1 = c) : ∀ i, i < n + 1 → ∀ c', g.cps.toList[i]? = some c' → ∃ r ∈ T', r.1 = c' := fun i hi c' h' => by
  rcases Nat.lt_succ_iff_lt_or_eq.mp hi with h1 | rfl
  · obtain ⟨r, hr, e⟩ := h.fHas i h1 c' h'
    exact ⟨r, hs r hr, e⟩
  · rw [hc] at h'; cases h'; exact hin
set_option maxRecDepth 100000 in
set_option maxHeartbeats 4000000 in
theorem t_chain (w : World) : PySem.Challenge.rw_ik0097_01 = PySem.Challenge.rw_ik0097_01 → Kx = Kx → ∀ (f g : Str) (x d : Addr) (es : List DictEntry) (k : Nat), AttIs w.params (lA (.txt f) (.txt g) lD) es → x ≠ d → g.length = 8 →
    OwnK w 259 [.ref x] [(x, instObj 313 d), (d, dictOf es k)] 4 100 (fun _ => True) (ChainR w f g x d) := by
  k_fill
  intro _ _ f g xI dI es k hA hxd hlg
  (k_dflt (refine' own_S (by decide) ?k6 ?k7 ?k9 ?kB ?hf0 ?hnd ?_ ?c2 ?c3 ?c4 ?c5; (case k6 => k_is); (case k7 => k_is); (case k9 => (intro _ Xb; first | exact BindsTo.of_eq rfl | exact binds_K (by k_in) rfl (by k_is) rfl rfl rfl)); (case c5 => decide); (case kB => exact locs rfl); (case c2 => exact rfl); (case c3 => exact rfl); (case c4 => exact rfl)); k_whole)
  case hf0 =>
    refine (?_ : AllF _ [("self", .val (.ref xI))])
    exact ⟨⟨_, rfl, rfl⟩, trivial⟩
  case hnd => exact List.nodup_cons.mpr ⟨fun h => hxd (List.mem_singleton.mp h), List.pairwise_singleton _ _⟩
  intro C hD hU _ Q hQ
  refine g_to [("self", .val (.ref xI))] [(dI, oAtt w.params (lA (.txt f) (.txt g) lD)), (xI, oEq (instObj 313 dI))] (.trans (b := [(dI, oEq (dictOf es k)), (xI, oEq (instObj 313 dI))]) (.head fun o e => ⟨es, k, hA, e⟩) (.i [1, 0] (by kernel_rfl))) ?_ (by kernel_rfl)
  refine g_set (Ev.x (ev_att (a := .txt g) rfl (.tail _ (.head _)) (.head _) (by kernel_rfl)) ?_)
  refine g_two (.dict0 (P := oKv w []) (fun o h _ => h) fun b2 lo => ga_att (i := 1) rfl (by k_mem) rfl (ga_name ?_))
  refine g_to (fCh g xI b2) (nCh w f g xI dI b2 0 []) (.i [0, 2, 1] (by kernel_rfl)) ?_ (by kernel_rfl)
  refine g_forE (α := List (Nat × Addr)) ev (TGr g) (fun _ _ => fCh g xI b2) (fun n T => nCh w f g xI dI b2 n T) [] ⟨List.Pairwise.nil, fun _ h => absurd h (Nat.not_lt_zero _), Nat.le_refl _⟩ (fun n c T own hc hT Q2 q2 => ?_) (fun T hT => ?_)
  · have hn8 : n < 8 := by
      rw [← hlg, ← length_toList]; exact (List.getElem?_eq_some_iff.mp hc).1
    refine g_set (.setdef (i := 0) rfl lo rfl (by unfold kvT; rw [List.length_map]; exact Nat.le_trans hT.fLen (Nat.le_trans (Nat.le_of_lt hn8) (by decide))) ev (fun v E hv => ?_) fun E hv => ?_)
    · obtain ⟨a, rfl, ha⟩ := kvT_at hv
      obtain ⟨T1, T2, rfl⟩ := List.append_of_mem ha
      have hk := hT.fKeys
      rw [List.map_append, List.map_cons, List.nodup_append] at hk
      have k1 : ∀ r ∈ T1, r.1 ≠ c := fun r hr => hk.2.2 r.1 (List.mem_map.mpr ⟨r, hr, rfl⟩) c (.head _)
      have k2 : ∀ r ∈ T2, r.1 ≠ c := fun r hr e => (List.nodup_cons.mp hk.2.1).1 (e ▸ List.mem_map.mpr ⟨r, hr, rfl⟩)
      have e1 : rowsN g.cps.toList n (T1 ++ (c, a) :: T2) = rowsN g.cps.toList n T1 ++ (a, oLst (occS g.cps.toList n c)) :: rowsN g.cps.toList n T2 := rowsN_app
      have e2 : rowsN g.cps.toList (n + 1) (T1 ++ (c, a) :: T2) = rowsN g.cps.toList n T1 ++ (a, oLst (occS g.cps.toList n c ++ [.num n])) :: rowsN g.cps.toList n T2 := by
        rw [rowsN_app, rowsN_other hc k1, show rowsN g.cps.toList (n + 1) ((c, a) :: T2) = (a, oLst (occS g.cps.toList (n + 1) c)) :: rowsN g.cps.toList (n + 1) T2 from rfl, rowsN_other hc k2, occS_same hc]
      refine g_to (("indices", .val (.ref a)) :: ("i", .num n) :: fCh g xI b2) ((a, oLst (occS g.cps.toList n c)) :: (bCh w f g xI dI b2 (T1 ++ (c, a) :: T2) ++ (rowsN g.cps.toList n T1 ++ rowsN g.cps.toList n T2))) (by unfold nCh; rw [e1]; exact pk1) ?_ (by kernel_rfl)
      refine g_append rfl (.head _) (.v ⟨0, _, rfl, Nat.le_trans (occ_len _ _ _) (Nat.le_trans (Nat.le_of_lt hn8) (by decide)), ?_⟩)
      exact g_lnext q2 (T1 ++ (c, a) :: T2) (by unfold nCh; rw [e2]; exact pk2) ⟨hT.fKeys, hT.has hc (fun _ h => h) ⟨_, ha, rfl⟩, Nat.le_succ_of_le hT.fLen⟩ (by kernel_rfl)
    · have hno := kvT_none hv
      refine g_to (("indices", .val (.ref E)) :: ("i", .num n) :: fCh g xI b2) ((E, oLst []) :: (bCh w f g xI dI b2 (T ++ [(c, E)]) ++ rowsN g.cps.toList n T)) (by rw [kvT_stored hv]; exact .rfl) ?_ (by kernel_rfl)
      refine g_append rfl (.head _) (.v ⟨0, [], rfl, Nat.zero_le _, ?_⟩)
      refine g_lnext q2 (T ++ [(c, E)]) (by unfold nCh; rw [rowsN_app, rowsN_other hc hno, show rowsN g.cps.toList (n + 1) [(c, E)] = [(E, oLst (occS g.cps.toList (n + 1) c))] from rfl, occS_same hc, occS_nil hT hno]; exact pk3) ⟨?_, hT.has hc (fun _ h => List.mem_append_left _ h) ⟨(c, E), List.mem_append_right _ (.head _), rfl⟩, by rw [List.length_append]; exact Nat.succ_le_succ hT.fLen⟩ (by kernel_rfl)
      rw [List.map_append, List.nodup_append]
      refine ⟨hT.fKeys, List.pairwise_singleton _ _, fun a ha b hb e => ?_⟩
      obtain ⟨r, hr, rfl⟩ := List.mem_map.mp ha
      exact hno r hr (e.trans (List.mem_singleton.mp hb))
  · refine g_two (.set0 fun jk => ga_att (i := 3) rfl (.tail _ (.tail _ (.head _))) rfl (ga_name ?_))
    refine g_set (Ev.x (ev_att (a := .val .none) rfl (.tail _ (.tail _ (.head _))) (.tail _ (.tail _ (.tail _ (.head _)))) (by kernel_rfl)) ?_)
    refine g_if (p := False) (fun h => h.elim) (fun _ => g_seq ?_)
    refine g_two (.set0 fun pp => ga_att (i := 4) rfl (.tail _ (.tail _ (.tail _ (.head _)))) rfl (ga_name ?_))
    refine g_assign ?_
    refine g_ifT (p := (true = true ∧ (200 : Int) ≤ g.length ∧ True)) (TstW.t (tstW_and (tst_truth (ev_att (a := .val (.bool true)) rfl (.tail _ (.tail _ (.tail _ (.head _)))) (.tail _ (.tail _ (.tail _ (.tail _ (.head _))))) (by kernel_rfl))) fun _ => tstW_and tst fun _ => tstW_nil)) (fun h => absurd h.2.1 (by lia)) (fun _ => g_seq (g_nil fun h t S => (hQ _ _ _ _ _ _ S ?_).2 rfl))
    refine ⟨rfl, b2, jk, pp, T, newC_of (S.pick ?_), ⟨hT.fKeys, hT.fHas⟩, lo⟩
    exact (Pick.i (n' := [(xI, oEq (instObj 313 dI)), (dI, oAtt w.params (lM f g b2 jk pp)), (b2, oKv w (kvT T)), (jk, oSet0 w)]) (n := [(pp, oSet0 w), (jk, oSet0 w), (b2, oKv w (kvT T)), (xI, oEq (instObj 313 dI)), (dI, oAtt w.params (lM f g b2 jk pp))]) [3, 4, 2, 1] (by kernel_rfl)).t
theorem nd2 {x d : Addr} (h : x ≠ d) : ([x, d] : List Addr).Nodup := List.nodup_cons.mpr ⟨fun e => h (List.mem_singleton.mp e), List.pairwise_singleton _ _⟩
theorem own_att {P : Params} {x d : Addr} {es : List DictEntry} {k : Nat} {l : List (Str × SV)} (hA : AttIs P l es) : Pick [(d, oAtt P l), (x, oEq (instObj 313 d))] (oEqs [(x, instObj 313 d), (d, dictOf es k)]) :=
  .trans (b := [(d, oEq (dictOf es k)), (x, oEq (instObj 313 d))]) (.head fun o e => ⟨es, k, hA, e⟩) (.i [1, 0] (by kernel_rfl))
set_option maxRecDepth 100000 in
set_option maxHeartbeats 4000000 in
theorem t_seq1 (w : World) : PySem.Challenge.rw_ik0097_01 = PySem.Challenge.rw_ik0097_01 → Kx = Kx → ∀ (f : Str) (t : Tok) (x d : Addr) (es : List DictEntry) (k : Nat), AttIs w.params (lA (.val .none) (.val .none) []) es → x ≠ d → f.length = 8 →
    OwnK w 245 [.ref x, .str f t] [(x, instObj 313 d), (d, dictOf es k)] 2 60 (fun _ => True) (DicR x d (oAtt w.params (lA (.txt f) (.val .none) lB))) := by
  k_fill
  intro _ _ f t xI dI es k hA hxd hlf
  (k_dflt (refine' own_S (by decide) ?k6 ?k7 ?k9 ?kB ?hf0 ?hnd ?_ ?c2 ?c3 ?c4 ?c5; (case k6 => k_is); (case k7 => k_is); (case k9 => (intro _ Xb; first | exact BindsTo.of_eq rfl | exact binds_K (by k_in) rfl (by k_is) rfl rfl rfl)); (case c5 => decide); (case kB => exact locs rfl); (case c2 => exact rfl); (case c3 => exact rfl); (case c4 => exact rfl)); k_whole)
  case hf0 =>
    refine (?_ : AllF _ [("a", .txt f), ("self", .val (.ref xI))])
    exact ⟨⟨_, rfl, le_big hlf, _, rfl⟩, ⟨_, rfl, rfl⟩, trivial⟩
  case hnd => exact nd2 hxd
  intro C hD hU _ Q hQ
  refine g_doc ?_
  refine g_to [("a", .txt f), ("self", .val (.ref xI))] [(dI, oAtt w.params (lA (.val .none) (.val .none) [])), (xI, oEq (instObj 313 dI))] (own_att hA) ?_ (by kernel_rfl)
  refine g_ifT (tst_isTxtV ev (ev_att (a := .val .none) rfl (.tail _ (.head _)) (.head _) (by kernel_rfl))) (fun h => h.elim) (fun _ => g_seq ?_)
  refine g_att (i := 0) (l := lA (.val .none) (.val .none) []) (.v ⟨.tail _ (.head _), rfl, ?_⟩)
  refine g_two (.v (ga_att (i := 0) rfl (.tail _ (.head _)) rfl (ga_att (i := 0) rfl (.tail _ (.head _)) rfl (g_nil fun h t S => (hQ _ _ _ _ _ _ S ⟨rfl, newC_of (S.pick (.i [1, 0] (by kernel_rfl)))⟩).2 rfl))))
set_option maxRecDepth 100000 in
set_option maxHeartbeats 4000000 in
theorem t_seq2 (w : World) : PySem.Challenge.rw_ik0097_01 = PySem.Challenge.rw_ik0097_01 → Kx = Kx → ∀ (f g : Str) (t : Tok) (x d : Addr) (es : List DictEntry) (k : Nat), AttIs w.params (lA (.txt f) (.val .none) lB) es → x ≠ d → g.length = 8 →
    OwnK w 252 [.ref x, .str g t] [(x, instObj 313 d), (d, dictOf es k)] 5 110 (fun _ => True) (ChainR w f g x d) := by
  k_fill
  intro _ _ f g t xI dI es k hA hxd hlg
  (k_dflt (refine' own_S (by decide) ?k6 ?k7 ?k9 ?kB ?hf0 ?hnd ?_ ?c2 ?c3 ?c4 ?c5; (case k6 => k_is); (case k7 => k_is); (case k9 => (intro _ Xb; first | exact BindsTo.of_eq rfl | exact binds_K (by k_in) rfl (by k_is) rfl rfl rfl)); (case c5 => decide); (case kB => exact locs rfl); (case c2 => exact rfl); (case c3 => exact rfl); (case c4 => exact rfl)); k_whole)
  case hf0 =>
    refine (?_ : AllF _ [("b", .txt g), ("self", .val (.ref xI))])
    exact ⟨⟨_, rfl, le_big hlg, _, rfl⟩, ⟨_, rfl, rfl⟩, trivial⟩
  case hnd => exact nd2 hxd
  intro C hD hU _ Q hQ
  refine g_doc ?_
  refine g_to [("b", .txt g), ("self", .val (.ref xI))] [(dI, oAtt w.params (lA (.txt f) (.val .none) lB)), (xI, oEq (instObj 313 dI))] (own_att hA) ?_ (by kernel_rfl)
  refine g_ifT (tst_isTxtV ev (ev_att (a := .val .none) rfl (.tail _ (.head _)) (.head _) (by kernel_rfl))) (fun h => h.elim) (fun _ => g_seq ?_)
  refine g_att (i := 0) (l := lA (.txt f) (.val .none) lB) (.v ⟨.tail _ (.head _), rfl, ?_⟩)
  refine g_two (.v (ga_att (i := 0) rfl (.tail _ (.head _)) rfl (ga_att (i := 0) rfl (.tail _ (.head _)) rfl ?_)))
  refine g_att (i := 0) (l := lA (.txt f) (.txt g) lB) (.v ⟨.tail _ (.head _), rfl, ?_⟩)
  refine g_to [("self", .val (.ref xI))] [(dI, oAtt w.params (lA (.txt f) (.txt g) lD)), (xI, oEq (instObj 313 dI))] (.i [0, 1] (by kernel_rfl)) ?_ (by kernel_rfl)
  refine g_exact fun o ho => ?_
  obtain ⟨es, k, hA, rfl⟩ := ho
  refine g_expr (.meth0 (c := 313) (fa := 259) (.v ⟨xI, dI, _, rfl, .tail _ (.head _), .head _, ?_, _, [], _, _, _, _, t_chain w rfl rfl f g xI dI es k hA hxd hlg, by lia, by lia, .i [1, 0] (by kernel_rfl), fun _ _ _ _ _ => trivial, fun h v h' hr => ?_⟩) (by kernel_rfl))
  · rintro _ rfl
    exact ⟨es, k, rfl, hA.no (by kernel_rfl)⟩
  · obtain ⟨rfl, b2, jk, pp, T, hn, hT, lo⟩ := hr
    exact ⟨.val .none, _, rfl, hn, rfl, g_nil fun h t S => (hQ _ _ _ _ _ _ S ⟨rfl, b2, jk, pp, T, newC_of (S.pick .left), hT, lo⟩).2 rfl⟩
set_option maxRecDepth 100000 in
set_option maxHeartbeats 4000000 in
theorem t_seqs (w : World) : PySem.Challenge.rw_ik0097_01 = PySem.Challenge.rw_ik0097_01 → Kx = Kx → ∀ (f g : Str) (t u : Tok) (x d : Addr) (es : List DictEntry) (k : Nat), AttIs w.params (lA (.val .none) (.val .none) []) es → x ≠ d → f.length = 8 → g.length = 8 →
    OwnK w 238 [.ref x, .str f t, .str g u] [(x, instObj 313 d), (d, dictOf es k)] 6 120 (fun _ => True) (ChainR w f g x d) := by
  k_fill
  intro _ _ f g t u xI dI es k hA hxd hlf hlg
  (k_dflt (refine' own_S (by decide) ?k6 ?k7 ?k9 ?kB ?hf0 ?hnd ?_ ?c2 ?c3 ?c4 ?c5; (case k6 => k_is); (case k7 => k_is); (case k9 => (intro _ Xb; first | exact BindsTo.of_eq rfl | exact binds_K (by k_in) rfl (by k_is) rfl rfl rfl)); (case c5 => decide); (case kB => exact locs rfl); (case c2 => exact rfl); (case c3 => exact rfl); (case c4 => exact rfl)); k_whole)
  case hf0 =>
    refine (?_ : AllF _ [("b", .txt g), ("a", .txt f), ("self", .val (.ref xI))])
    exact ⟨⟨_, rfl, le_big hlg, _, rfl⟩, ⟨_, rfl, le_big hlf, _, rfl⟩, ⟨_, rfl, rfl⟩, trivial⟩
  case hnd => exact nd2 hxd
  intro C hD hU _ Q hQ
  refine g_doc ?_
  refine g_expr (.meth (fa := 245) (c := 313) (d := dI) rfl (.head _) (.tail _ (.head _)) (fun o e => ⟨es, k, e, hA.no (by kernel_rfl)⟩) (by kernel_rfl) (.v (AllIs.one fun v hv => ?_)))
  obtain ⟨_, t', rfl⟩ := hv
  refine ⟨_, [], _, _, _, _, t_seq1 w rfl rfl f t' xI dI es k hA hxd hlf, by lia, by lia, .i [0, 1] (by kernel_rfl), fun _ _ _ _ _ => trivial, fun h v h' hr => ⟨.val .none, _, hr.1, hr.2, rfl, ?_⟩⟩
  refine g_to [("b", .txt g), ("self", .val (.ref xI))] [(dI, oAtt w.params (lA (.txt f) (.val .none) lB)), (xI, oEq (instObj 313 dI))] (.i [1, 0] (by kernel_rfl)) ?_ (by kernel_rfl)
  refine g_exact fun o ho => ?_
  obtain ⟨es, k, hA, rfl⟩ := ho
  refine g_expr (.meth (fa := 252) (c := 313) (d := dI) rfl (.tail _ (.head _)) (.head _) (fun o e => ⟨es, k, e, hA.no (by kernel_rfl)⟩) (by kernel_rfl) (.v (AllIs.one fun v hv => ?_)))
  obtain ⟨_, u', rfl⟩ := hv
  refine ⟨_, [], _, _, _, _, t_seq2 w rfl rfl f g u' xI dI es k hA hxd hlg, by lia, by lia, .i [1, 0] (by kernel_rfl), fun _ _ _ _ _ => trivial, fun h v h' hr => ?_⟩
  obtain ⟨rfl, b2, jk, pp, T, hn, hT, lo⟩ := hr
  exact ⟨.val .none, _, rfl, hn, rfl, g_nil fun h t S => (hQ _ _ _ _ _ _ S ⟨rfl, b2, jk, pp, T, newC_of (S.pick .left), hT, lo⟩).2 rfl⟩
structure SmOk (w : World) (f g : Str) (b2 jk : Addr) (es : List DictEntry) (oE oJ : Obj) (T : List (Nat × Addr)) : Prop where
  pp : ∃ pp, AttIs w.params (lM f g b2 jk pp) es
  fDict : oE.IsDictOf (PySem.strKind pw w) (kvT T)
  fJunk : Obj.SetObjOf (PySem.strKind pw w) oJ (fun _ => false) 0
  fT : SmT g T
  lo : (b2 == sysModules) = false
noncomputable def smN (x d b2 jk : Addr) (es : List DictEntry) (k : Nat) (oE oJ : Obj) : List (Addr × Obj) := [(x, instObj 313 d), (d, dictOf es k), (b2, oE), (jk, oJ)]
inductive SmR (w : World) (f g : Str) (h : Heap) (v : Value) (h' : Heap) : Prop
  | mk (x d b2 jk : Addr) (es : List DictEntry) (k : Nat) (oE oJ : Obj) (T : List (Nat × Addr)) (e : v = .ref x) (hn : NewC h h' (oEqs (smN x d b2 jk es k oE oJ) ++ rowsN g.cps.toList g.length T)) (hS : SmOk w f g b2 jk es oE oJ T)
theorem SmR.mono {w : World} {f g : Str} (h k h' : Heap) (v : Value) (hs : h.StaysIn k) (hr : SmR w f g k v h') : SmR w f g h v h' := by
  obtain ⟨x, d, b2, jk, es, k, oE, oJ, T, e, hn, hS⟩ := hr
  exact ⟨x, d, b2, jk, es, k, oE, oJ, T, e, hn.mono hs, hS⟩
theorem sm_of {w : World} {f g : Str} {h h' : Heap} {x d b2 jk pp : Addr} {T : List (Nat × Addr)} (hn : NewC h h' ((x, oEq (instObj 313 d)) :: (d, oAtt w.params (lM f g b2 jk pp)) :: (b2, oKv w (kvT T)) :: (jk, oSet0 w) :: rowsN g.cps.toList g.length T)) (hT : SmT g T) (lo : (b2 == sysModules) = false) : SmR w f g h (.ref x) h' := by
  obtain ⟨_, od, gd, ⟨es, k, hA, rfl⟩⟩ := hn.at' _ (.tail _ (.head _))
  obtain ⟨_, oE, gE, hE⟩ := hn.at' _ (.tail _ (.tail _ (.head _)))
  obtain ⟨_, oJ, gJ, ⟨hJ⟩⟩ := hn.at' _ (.tail _ (.tail _ (.tail _ (.head _))))
  refine ⟨x, d, b2, jk, es, k, oE, oJ, T, rfl, ⟨fun p hp => ?_, hn.nd⟩, ⟨⟨pp, hA⟩, hE, hJ, hT, lo⟩⟩
  rcases List.mem_cons.mp hp with rfl | hp
  · exact hn.at' _ (.head _)
  rcases List.mem_cons.mp hp with rfl | hp
  · exact ⟨(hn.at' _ (.tail _ (.head _))).1, _, gd, rfl⟩
  rcases List.mem_cons.mp hp with rfl | hp
  · exact ⟨(hn.at' _ (.tail _ (.tail _ (.head _)))).1, _, gE, rfl⟩
  rcases List.mem_cons.mp hp with rfl | hp
  · exact ⟨(hn.at' _ (.tail _ (.tail _ (.tail _ (.head _))))).1, _, gJ, rfl⟩
  · exact hn.at' _ (.tail _ (.tail _ (.tail _ (.tail _ hp))))
set_option maxRecDepth 100000 in
set_option maxHeartbeats 4000000 in
theorem t_sm (w : World) : PySem.Challenge.rw_ik0097_01 = PySem.Challenge.rw_ik0097_01 → Kx = Kx → ∀ (f g : Str) (t u : Tok), f.length = 8 → g.length = 8 →
    Pur w 313 [.none, .str f t, .str g u] 9 200 (fun _ => True) (SmR w f g) := by
  k_fill
  intro _ _ f g t u hlf hlg
  (k_dflt (refine' cls_S (by decide) ?kh ?ki ?kj ?km ?k6 ?k7 ?k9 ?kB ?hf0 ?_ ?c2 ?c3 ?c4 ?c5; (case kh => k_is); (case ki => k_is); (case kj => k_is); (case k6 => k_is); (case k7 => k_is); (case k9 => (intro _ _ Xb; first | exact BindsTo.of_eq rfl | exact binds_K (by k_in) rfl (by k_is) rfl rfl rfl)); (case c5 => decide); (case kB => (intro _; exact locs rfl)); (case c2 => exact rfl); (case c3 => exact rfl); (case c4 => exact rfl)); k_whole)
  case km => exact SmR.mono
  case hf0 =>
    refine fun x => (?_ : AllF _ [("autojunk", .val (.bool true)), ("b", .txt g), ("a", .txt f), ("isjunk", .val .none), ("self", .val (.ref x))])
    exact ⟨⟨_, rfl, rfl⟩, ⟨_, rfl, le_big hlg, _, rfl⟩, ⟨_, rfl, le_big hlf, _, rfl⟩, ⟨_, rfl, rfl⟩, ⟨_, rfl, rfl⟩, trivial⟩
  intro C hD hU xI dI hxd Q hQ
  refine g_doc ?_
  refine g_to [("autojunk", .val (.bool true)), ("b", .txt g), ("a", .txt f), ("isjunk", .val .none), ("self", .val (.ref xI))] [(dI, oAtt w.params []), (xI, oEq (instObj 313 dI))] (.trans (b := [(dI, oEq (dictOf [] 0)), (xI, oEq (instObj 313 dI))]) (.head fun o e => ⟨[], 0, trivial, e⟩) (.i [1, 0] (by kernel_rfl))) ?_ (by kernel_rfl)
  refine g_att (i := 0) (l := []) (.v ⟨.tail _ (.head _), rfl, ?_⟩)
  refine g_two (.v (ga_att (i := 0) rfl (.tail _ (.head _)) rfl (ga_att (i := 0) rfl (.tail _ (.head _)) rfl ?_)))
  refine g_att (i := 0) (l := [("isjunk", .val .none), ("a", .val .none), ("b", .val .none)]) (.v ⟨.tail _ (.head _), rfl, ?_⟩)
  refine g_to [("b", .txt g), ("a", .txt f), ("self", .val (.ref xI))] [(dI, oAtt w.params (lA (.val .none) (.val .none) [])), (xI, oEq (instObj 313 dI))] (.i [0, 1] (by kernel_rfl)) ?_ (by kernel_rfl)
  refine g_exact fun o ho => ?_
  obtain ⟨es, k, hA, rfl⟩ := ho
  refine g_expr (.meth (fa := 238) (c := 313) (d := dI) rfl (.tail _ (.head _)) (.head _) (fun o e => ⟨es, k, e, hA.no (by kernel_rfl)⟩) (by kernel_rfl) (.v (AllIs.two fun v v' hv hv' => ?_)))
  obtain ⟨_, t', rfl⟩ := hv
  obtain ⟨_, u', rfl⟩ := hv'
  refine ⟨_, [], _, _, _, _, t_seqs w rfl rfl f g t' u' xI dI es k hA hxd hlf hlg, by lia, by lia, .i [1, 0] (by kernel_rfl), fun _ _ _ _ _ => trivial, fun h v h' hr => ?_⟩
  obtain ⟨rfl, b2, jk, pp, T, hn, hT, lo⟩ := hr
  exact ⟨.val .none, _, rfl, hn, rfl, g_nil fun h t S => (hQ _ _ _ _ _ _ S ⟨rfl, sm_of (newC_of (S.pick .left)) hT lo⟩).2 rfl⟩
end
section
open PySem PySem.W PySem.Calls PySem.Spec PyProof PyProof.Rows
theorem sfx_start (x y : List Nat) (alo blo e : Nat) : sfx x y alo blo (alo + 0) e = 0 := by
  rw [Nat.add_zero]
  cases alo with
  | zero => rfl
  | succ a =>
    cases e with
    | zero => rfl
    | succ e => simp only [sfx]; rw [if_neg (by lia)]
theorem items_eq {f g : Str} {a b : Nat} (ha : a < f.cps.toList.length) (hb : b < g.cps.toList.length) (q : Txt.item f (a : Int) = Txt.item g (b : Int)) : f.cps.toList[a]? = g.cps.toList[b]? := by
  rw [item_is, item_is] at q
  have := sign_inj q
  rw [List.getD_eq_getElem?_getD, List.getD_eq_getElem?_getD, List.getElem?_eq_getElem ha, List.getElem?_eq_getElem hb] at this
  rw [List.getElem?_eq_getElem ha, List.getElem?_eq_getElem hb]
  exact congrArg some this
noncomputable def RowsAt (g : Str) (T : List (Nat × Addr)) (h : Heap) : Prop := ∀ r ∈ T, LstIn h r.2 (occS g.cps.toList g.length r.1)
noncomputable def f9 (f g : Str) (b2 qB lN dJ : Addr) (alo ahi blo bhi bi bj bs : Nat) : SF :=
  [("j2len", .val (.ref dJ)), ("bestsize", .num bs), ("bestj", .num bj), ("besti", .num bi), ("isbjunk", .val (.ref qB)), ("nothing", .val (.ref lN)), ("b2j", .val (.ref b2)), ("b", .txt g), ("a", .txt f),
    ("bhi", .num bhi), ("blo", .num blo), ("ahi", .num ahi), ("alo", .num alo)]
noncomputable def n9 (w : World) (xI dI b2 jk qB lN dJ : Addr) (es : List DictEntry) (kd : Nat) (oE oJ : Obj) (T : List (Int × Value) → Prop) : SL :=
  [(dJ, oDI w T), (lN, oLst []), (qB, oEq (boundObj "set.__contains__" jk)), (xI, oEq (instObj 313 dI)), (dI, oEq (dictOf es kd)), (b2, oEq oE), (jk, oEq oJ)]
noncomputable def T9 (f g : Str) (alo blo bhi r : Nat) (kvs : List (Int × Value)) : Prop := kvs.length ≤ 8 ∧ DictOk f.cps.toList g.cps.toList alo blo bhi (alo + r) kvs
noncomputable def U9 (f g : Str) (alo blo bhi r : Nat) (P : List Nat) (kvs : List (Int × Value)) : Prop := kvs.length ≤ P.length ∧ NewOk f.cps.toList g.cps.toList alo blo bhi (alo + r) P kvs
noncomputable def i9 (f g : Str) (b2 qB lN dJ qG dN : Addr) (alo ahi blo bhi bi bj bs r : Nat) : SF := ("newj2len", .val (.ref dN)) :: ("j2lenget", .val (.ref qG)) :: ("i", .num ((alo : Int) + r)) :: f9 f g b2 qB lN dJ alo ahi blo bhi bi bj bs
noncomputable def m9 (w : World) (xI dI b2 jk qB lN dJ qG dN : Addr) (es : List DictEntry) (kd : Nat) (oE oJ : Obj) (T T' : List (Int × Value) → Prop) : SL :=
  (dN, oDI w T') :: (qG, oEq (boundObj "dict.get" dJ)) :: n9 w xI dI b2 jk qB lN dJ es kd oE oJ T
inductive FlmR (f g : Str) (x d b2 jk : Addr) (es : List DictEntry) (k : Nat) (oE oJ : Obj) (alo ahi blo bhi : Nat) (h : Heap) (v : Value) (h' : Heap) : Prop
  | mk (r dm : Addr) (bi bj bs : Nat) (v1 v2 v3 : Tok) (e : v = .ref r) (hn : NewC h h' (oEqs ((r, matchObj (.int bi v1) (.int bj v2) (.int bs v3) dm) :: smN x d b2 jk es k oE oJ))) (hB : BestOf f.cps.toList g.cps.toList alo ahi blo bhi bi bj bs)
theorem kvT_no {T : List (Nat × Addr)} {c : Nat} (h : ∀ r ∈ T, r.1 ≠ c) : valueAt (kvT T) ⟨#[c]⟩ = none := by
  cases e : valueAt (kvT T) ⟨#[c]⟩ with
  | none => rfl
  | some v => obtain ⟨a, _, ha⟩ := kvT_at e; exact absurd rfl (h _ ha)
set_option maxRecDepth 100000 in
set_option maxHeartbeats 4000000 in
theorem t_flm (w : World) : PySem.Challenge.rw_ik0097_01 = PySem.Challenge.rw_ik0097_01 → Kx = Kx → ∀ (f g : Str) (x d b2 jk : Addr) (es : List DictEntry) (k : Nat) (oE oJ : Obj) (TB : List (Nat × Addr)) (u1 u2 u3 u4 : Tok) (alo ahi blo bhi : Nat), SmOk w f g b2 jk es oE oJ TB → [x, d, b2, jk].Nodup → f.length = 8 → g.length = 8 → alo ≤ ahi → ahi ≤ 8 → blo ≤ bhi → bhi ≤ 8 →
    OwnK w 267 [.ref x, .int alo u1, .int ahi u2, .int blo u3, .int bhi u4] (smN x d b2 jk es k oE oJ) 8 300 (RowsAt g TB) (FlmR f g x d b2 jk es k oE oJ alo ahi blo bhi) := by
  k_fill
  intro _ _ f g xI dI b2 jk es kd oE oJ TB u1 u2 u3 u4 alo ahi blo bhi hS hnd hlf hlg h1 h2 h3 h4
  obtain ⟨pp, hA⟩ := hS.pp
  obtain ⟨_, ga, _, t, rfl⟩ := hA.get (x := "a") (a := .txt f) (by kernel_rfl)
  obtain ⟨_, gb, _, u, rfl⟩ := hA.get (x := "b") (a := .txt g) (by kernel_rfl)
  obtain ⟨_, gc, rfl⟩ := hA.get (x := "b2j") (a := .val (.ref b2)) (by kernel_rfl)
  obtain ⟨_, gd, rfl⟩ := hA.get (x := "bjunk") (a := .val (.ref jk)) (by kernel_rfl)
  have lf : f.cps.toList.length = 8 := by rw [length_toList]; exact hlf
  have lg : g.cps.toList.length = 8 := by rw [length_toList]; exact hlg
  (k_dflt (refine' own_S (by decide) ?k6 ?k7 ?k9 ?kB ?hf0 ?hnd ?_ ?c2 ?c3 ?c4 ?c5; (case k6 => k_is); (case k7 => k_is); (case k9 => (intro _ Xb; first | exact BindsTo.of_eq rfl | exact binds_K (by k_in) rfl (by k_is) rfl rfl rfl)); (case c5 => decide); (case kB => exact locs rfl); (case c2 => exact rfl); (case c3 => exact rfl); (case c4 => exact rfl)); k_whole)
  case hf0 =>
    refine (?_ : AllF _ [("bhi", .num bhi), ("blo", .num blo), ("ahi", .num ahi), ("alo", .num alo), ("self", .val (.ref xI))])
    exact ⟨⟨_, rfl, _, rfl⟩, ⟨_, rfl, _, rfl⟩, ⟨_, rfl, _, rfl⟩, ⟨_, rfl, _, rfl⟩, ⟨_, rfl, rfl⟩, trivial⟩
  case hnd => exact hnd
  intro C hD hU hP Q hQ
  refine g_doc ?_
  refine g_unpack (.tuple (.cons (.attrT ga (le_big hlf) (.cons (.attrT gb (le_big hlg) (.cons ((ev_attrV gc).x (.cons (.bindHas (ev_attrV gd) (by k_mem) hS.fJunk fun qB => .nil fun D => ⟨D, _, _, rfl, .head _, fun _ h => h, rfl, ?_⟩)))))))))
  refine g_if (fun h => ?_) (fun _ => g_seq ?_)
  · cases h
  refine g_if (fun h => ?_) (fun _ => g_seq ?_)
  · cases h
  refine g_swap (.v ?_)
  refine g_set (.dict0 (P := oDI w (T9 f g alo blo bhi 0)) (fun o _ h => ⟨[], ⟨Nat.zero_le _, fun e _ => .inl ⟨rfl, sfx_start _ _ _ _ _⟩⟩, h⟩) fun dJ lo => ?_)
  refine g_set (.list (.nil fun lN => ?_))
  refine g_to (f9 f g b2 qB lN dJ alo ahi blo bhi alo blo 0) (n9 w xI dI b2 jk qB lN dJ es kd oE oJ (T9 f g alo blo bhi 0)) (.i [1, 0, 3, 4, 5, 6, 7] (by kernel_rfl)) ?_ (by kernel_rfl)
  refine g_for2 (α := Addr × Nat × Nat × Nat) (a := (alo : Int)) (b := (ahi : Int)) (k := ahi - alo) (fun r c => (c.1 == sysModules) = false ∧ Best f.cps.toList g.cps.toList alo ahi blo bhi (fun e _ => e ≤ alo + r) c.2.1 c.2.2.1 c.2.2.2)
    (fun _ c => f9 f g b2 qB lN c.1 alo ahi blo bhi c.2.1 c.2.2.1 c.2.2.2) (fun r c => n9 w xI dI b2 jk qB lN c.1 es kd oE oJ (T9 f g alo blo bhi r)) (dJ, alo, blo, 0) ⟨lo, by rw [Nat.add_zero]; exact Best.start h1 h3⟩ ?_ ?_ (small_one (by lia) (by lia) (by lia) (by lia)) (by rw [rangeSize_nat]; lia)
  · intro r
    refine prod4 fun dJ bi bj bs => ?_
    intro own hr hJ Q1 q1
    have loJ := hJ.1
    have hB := hJ.2
    dsimp only at hB loJ ⊢
    refine g_set (.bindGet rfl (.head _) (fun o ⟨kvs, _, hD⟩ => ⟨kvs, hD⟩) fun qG => ?_)
    refine g_set (.dict0 (P := oDI w (U9 f g alo blo bhi r [])) (fun o _ h => ⟨[], ⟨Nat.zero_le _, NewOk.nil⟩, h⟩) fun dN loN => ?_)
    refine g_to (i9 f g b2 qB lN dJ qG dN alo ahi blo bhi bi bj bs r) (m9 w xI dI b2 jk qB lN dJ qG dN es kd oE oJ (T9 f g alo blo bhi r) (U9 f g alo blo bhi r [])) .rfl ?_ (by kernel_rfl)
    have hri : alo + r < ahi := by lia
    refine g_then (α := Nat × Nat × Nat) (fun c => Best f.cps.toList g.cps.toList alo ahi blo bhi (fun e _ => e ≤ alo + (r + 1)) c.1 c.2.1 c.2.2) (fun c => i9 f g b2 qB lN dJ qG dN alo ahi blo bhi c.1 c.2.1 c.2.2 r)
      (fun _ => m9 w xI dI b2 jk qB lN dJ qG dN es kd oE oJ (T9 f g alo blo bhi r) (T9 f g alo blo bhi (r + 1))) (fun c hB' => ?_) fun after => ?_
    · refine g_assign ?_
      exact g_lnext q1 (dN, c) (.i [0, 3, 4, 5, 6, 7, 8] (by kernel_rfl)) ⟨loN, hB'⟩ (by kernel_rfl)
    obtain ⟨c, hc⟩ : ∃ c, f.cps.toList[alo + r]? = some c := ⟨_, List.getElem?_eq_getElem (show alo + r < f.cps.toList.length by lia)⟩
    have hitem : Txt.item f ((alo : Int) + (r : Int)) = ⟨#[c]⟩ := by
      have := item_is f (alo + r)
      rw [show ((alo + r : Nat) : Int) = (alo : Int) + (r : Int) by lia] at this
      rw [this, List.getD_eq_getElem?_getD, hc]; rfl
    refine g_forX ((ev_dictGet (k := Txt.item f ((alo : Int) + (r : Int))) (v := .ref lN) rfl (by k_mem) hS.fDict hS.lo (ev (hp := by exact ⟨by lia, trivial⟩)) ev).x ?_)
    rw [hitem]
    by_cases hmem : ∃ q ∈ TB, q.1 = c
    · obtain ⟨⟨c', a⟩, hr0, hcc⟩ := hmem
      dsimp only at hcc
      subst hcc
      rw [kvT_value hS.fT.fKeys hr0]
      refine ⟨a, rfl, ?_⟩
      obtain ⟨vs, has, hls⟩ := hP _ hr0
      dsimp only at hls
      unfold occS nI at has
      have hidx : ∀ e, blo ≤ e → e < bhi → f.cps.toList[alo + r]? = g.cps.toList[e]? → e ∈ occ g.cps.toList g.length c' := fun e _ he2 he3 => occ_mem.mpr ⟨by lia, by rw [← he3]; exact hc⟩
      have hoc8 : (occ g.cps.toList g.length c').length ≤ 8 := Nat.le_trans (List.length_filter_le _ _) (by rw [List.length_range]; lia)
      have hsort : (occ g.cps.toList g.length c').Pairwise (· < ·) := occ_lt
      have hmemP : ∀ e ∈ occ g.cps.toList g.length c', e < 8 ∧ f.cps.toList[alo + r]? = g.cps.toList[e]? := fun e he => by
        have := occ_mem.mp he
        exact ⟨by lia, by rw [this.2]; exact hc⟩
      generalize occ g.cps.toList g.length c' = P0 at has hidx hoc8 hsort hmemP
      refine over_base (α := Nat × Nat × Nat) hls has (fun z c => Best f.cps.toList g.cps.toList alo ahi blo bhi (Dz (alo + r) (P0.take z)) c.1 c.2.1 c.2.2) (fun _ c => i9 f g b2 qB lN dJ qG dN alo ahi blo bhi c.1 c.2.1 c.2.2 r)
        (fun z _ => m9 w xI dI b2 jk qB lN dJ qG dN es kd oE oJ (T9 f g alo blo bhi r) (U9 f g alo blo bhi r (P0.take z))) (bi, bj, bs) (by rw [List.take_zero]; exact hB.row) ?_ ?_
      · intro z
        refine prod3 fun ci cj c9 => ?_
        intro v own2 hv hB' Q2 hq2
        dsimp only at hB' ⊢
        obtain ⟨p, hp, rfl⟩ : ∃ p : Nat, P0[z]? = some p ∧ v = .num p := by
          rw [List.getElem?_map, List.getElem?_map] at hv
          cases hq : P0[z]? with
          | none => rw [hq] at hv; cases hv
          | some p => rw [hq] at hv; cases hv; exact ⟨p, rfl, rfl⟩
        have hp8 := hmemP p (List.mem_of_getElem? hp)
        have hlt := take_lt hsort hp
        have hts := take_step hp
        have htl : (P0.take z).length ≤ 8 := Nat.le_trans (by rw [List.length_take]; exact Nat.min_le_right _ _) hoc8
        refine g_if (fun q1 => ?_) (fun q1 => g_seq ?_)
        · have q2 : p < blo := by lia
          exact g_lcont hq2 (ci, cj, c9) (.head (oDI.weak fun kvs h => by rw [hts]; exact ⟨by rw [List.length_append]; exact Nat.le_trans h.1 (Nat.le_add_right _ _), h.2.skip q2⟩)) (by rw [hts]; exact hB'.low q2) (by kernel_rfl)
        refine g_if (fun q2 => ?_) (fun q2 => g_seq ?_)
        · have hall : ∀ e, blo ≤ e → e < bhi → f.cps.toList[alo + r]? = g.cps.toList[e]? → e ∈ P0.take z := fun e he1 he2 he3 => rest_ge hsort hp (hidx e he1 he2 he3) (by lia)
          exact g_lbrk hq2 (g_to _ _ (.head (oDI.weak fun kvs h => ⟨Nat.le_trans h.1 htl, h.2.done hall⟩)) (after (ci, cj, c9) (hB'.done hall)) (by kernel_rfl))
        have hp1 : blo ≤ p := by lia
        have hp2 : p < bhi := by lia
        have hsx : sfx f.cps.toList g.cps.toList alo blo (alo + r + 1) (p + 1) = sfx f.cps.toList g.cps.toList alo blo (alo + r) p + 1 := by
          simp only [sfx]
          rw [if_pos ⟨by lia, hp1, hp8.2⟩]
        have hcell := hB'.at (by lia) hri hp1 hp2 hp8.2 hlt
        have hsp := sfx_spec f.cps.toList g.cps.toList alo blo (alo + r + 1) (p + 1) (by lia) (by lia)
        have hget : ∀ kvs u, T9 f g alo blo bhi r kvs → (SV.num (sfx f.cps.toList g.cps.toList alo blo (alo + r) p : Nat)).Is ((valueAt kvs ((p : Int) - 1)).getD (.int 0 u)) := fun kvs u h => by
          rcases h.2 p (by lia) with ⟨e1, e2⟩ | ⟨t', e1⟩
          · rw [e1, e2]; exact ⟨u, rfl⟩
          · rw [e1]; exact ⟨t', rfl⟩
        have hstore : ∀ kvs u, U9 f g alo blo bhi r (P0.take z) kvs → U9 f g alo blo bhi r (P0.take (z + 1)) (stored kvs (p : Int) (.int ((sfx f.cps.toList g.cps.toList alo blo (alo + r) p : Nat) + 1) u)) := fun kvs u h => by
          have := h.2.store (p := p) u
          rw [hsx] at this
          rw [hts]
          exact ⟨by rw [List.length_append]; exact Nat.le_trans (stored_length_le _ _ _) (Nat.add_le_add_right h.1 1), this⟩
        generalize sfx f.cps.toList g.cps.toList alo blo (alo + r) p = sv at hsx hget hstore
        rw [hsx] at hcell hsp
        refine g_set2 (i := 0) (v := (sv : Int) + 1) (j := p) (T := U9 f g alo blo bhi r (P0.take z)) (T' := U9 f g alo blo bhi r (P0.take (z + 1))) rfl rfl (ev_add (ev_boundGet rfl (by k_mem) (by k_mem) loJ ev ev hget) ev_int) ev (fun kvs h => Nat.le_trans h.1 (Nat.le_trans htl (by decide))) hstore ?_
        refine g_if (fun q3 => ?_) (fun q3 => ?_)
        · refine g_swap (.v ?_)
          have i1 : (alo : Int) + r - ((sv : Int) + 1) + 1 = ((alo + r + 1 - (sv + 1) : Nat) : Int) := by lia
          have i2 : (p : Int) - ((sv : Int) + 1) + 1 = ((p + 1 - (sv + 1) : Nat) : Int) := by lia
          rw [i1, i2]
          exact g_seq (g_lnext hq2 (alo + r + 1 - (sv + 1), p + 1 - (sv + 1), sv + 1) (.i [0, 1, 2, 3, 4, 5, 6, 7, 8] (by kernel_rfl)) (by rw [hts]; exact hcell.1 (by lia)) (by kernel_rfl))
        · exact g_seq (g_lnext hq2 (ci, cj, c9) (.i [0, 1, 2, 3, 4, 5, 6, 7, 8] (by kernel_rfl)) (by rw [hts]; exact hcell.2 (by lia)) (by kernel_rfl))
      · intro c hB'
        rw [show ((P0.map fun i : Nat => (i : Int)).map SV.num).length = P0.length by simp] at *
        rw [List.take_length] at *
        exact g_to _ _ (.head (oDI.weak fun kvs h => ⟨Nat.le_trans h.1 hoc8, h.2.done hidx⟩)) (after c (hB'.done hidx)) rfl
    · have hidx : ∀ e, blo ≤ e → e < bhi → f.cps.toList[alo + r]? = g.cps.toList[e]? → e ∈ ([] : List Nat) := fun e _ he2 he3 => by
        obtain ⟨q, hq, e'⟩ := hS.fT.fHas e (by lia) c (by rw [← he3]; exact hc)
        exact absurd ⟨q, hq, e'⟩ hmem
      rw [kvT_no fun q hq e => hmem ⟨q, hq, e⟩]
      refine ⟨lN, rfl, ?_⟩
      refine Over.to (i9 f g b2 qB lN dJ qG dN alo ahi blo bhi bi bj bs r) ((lN, oLst []) :: [(dN, oDI w (U9 f g alo blo bhi r [])), (qG, oEq (boundObj "dict.get" dJ)), (dJ, oDI w (T9 f g alo blo bhi r)), (qB, oEq (boundObj "set.__contains__" jk)), (xI, oEq (instObj 313 dI)), (dI, oEq (dictOf es kd)), (b2, oEq oE), (jk, oEq oJ)]) (.i [3, 0, 1, 2, 4, 5, 6, 7, 8] (by kernel_rfl)) ?_ rfl
      refine over_own (α := Unit) (as := []) (fun _ h => h) (fun _ _ => True) (fun _ _ => i9 f g b2 qB lN dJ qG dN alo ahi blo bhi bi bj bs r) (fun _ _ => [(dN, oDI w (U9 f g alo blo bhi r [])), (qG, oEq (boundObj "dict.get" dJ)), (dJ, oDI w (T9 f g alo blo bhi r)), (qB, oEq (boundObj "set.__contains__" jk)), (xI, oEq (instObj 313 dI)), (dI, oEq (dictOf es kd)), (b2, oEq oE), (jk, oEq oJ)]) () trivial (fun i _ c _ h => nomatch h) (fun _ _ => ?_)
      refine g_to (i9 f g b2 qB lN dJ qG dN alo ahi blo bhi bi bj bs r) (m9 w xI dI b2 jk qB lN dJ qG dN es kd oE oJ (T9 f g alo blo bhi r) (U9 f g alo blo bhi r [])) (.i [1, 2, 3, 0, 4, 5, 6, 7, 8] (by kernel_rfl)) ?_ rfl
      exact g_to _ _ (.head (oDI.weak fun kvs h => ⟨Nat.le_trans h.1 (Nat.zero_le _), h.2.done hidx⟩)) (after (bi, bj, bs) (hB.row.done hidx)) rfl
  · refine prod4 fun dJ bi bj bs => ?_
    intro hJ
    have loJ := hJ.1
    have hB := hJ.2
    dsimp only at hB loJ ⊢
    have hBo : BestOf f.cps.toList g.cps.toList alo ahi blo bhi bi bj bs := hB.all (fun p q h => by lia)
    have a0 := hBo.1.a0; have a1 := hBo.1.a1; have b0 := hBo.1.b0; have b1 := hBo.1.b1
    refine g_whileF (p := (alo : Int) < bi ∧ (blo : Int) < bj ∧ ¬ false = true ∧ Txt.item f ((bi : Int) - 1) = Txt.item g ((bj : Int) - 1) ∧ True) (tstW_and tst fun p1 => tstW_and tst fun p2 => tstW_and (tst_not (tst_boundHas rfl (by k_mem) (by k_mem) hS.fJunk (by decide) (ev (hp := by exact ⟨by lia, trivial⟩)))) fun _ => tstW_and (tst (hp := by exact ⟨by lia, by lia, trivial⟩)) fun _ => tstW_nil).t (fun hh => ?_) ?_
    · have q := hh.2.2.2.1
      have p1 := hh.1; have p2 := hh.2.1
      rw [show (bi : Int) - 1 = ((bi - 1 : Nat) : Int) by lia, show (bj : Int) - 1 = ((bj - 1 : Nat) : Int) by lia] at q
      exact hBo.before (by lia) (by lia) (items_eq (by lia) (by lia) q)
    refine g_whileF (p := (bi : Int) + bs < ahi ∧ (bj : Int) + bs < bhi ∧ ¬ false = true ∧ Txt.item f ((bi : Int) + bs) = Txt.item g ((bj : Int) + bs) ∧ True) (tstW_and tst fun p1 => tstW_and tst fun p2 => tstW_and (tst_not (tst_boundHas rfl (by k_mem) (by k_mem) hS.fJunk (by decide) (ev (hp := by exact ⟨by lia, trivial⟩)))) fun _ => tstW_and (tst (hp := by exact ⟨by lia, by lia, trivial⟩)) fun _ => tstW_nil).t (fun hh => ?_) ?_
    · have q := hh.2.2.2.1
      have p1 := hh.1; have p2 := hh.2.1
      rw [show (bi : Int) + bs = ((bi + bs : Nat) : Int) by lia, show (bj : Int) + bs = ((bj + bs : Nat) : Int) by lia] at q
      exact hBo.behind (by lia) (by lia) (items_eq (by lia) (by lia) q)
    refine g_whileF (p := (alo : Int) < bi ∧ (blo : Int) < bj ∧ false = true ∧ False) (tstW_and tst fun p1 => tstW_and tst fun p2 => tstW_and (tst_boundHas rfl (by k_mem) (by k_mem) hS.fJunk (by decide) (ev (hp := by exact ⟨by lia, trivial⟩))) fun h => nomatch h).t (fun hh => nomatch hh.2.2.1) ?_
    refine g_whileF (p := (bi : Int) + bs < ahi ∧ (bj : Int) + bs < bhi ∧ false = true ∧ False) (tstW_and tst fun p1 => tstW_and tst fun p2 => tstW_and (tst_boundHas rfl (by k_mem) (by k_mem) hS.fJunk (by decide) (ev (hp := by exact ⟨by lia, trivial⟩))) fun h => nomatch h).t (fun hh => nomatch hh.2.2.1) ?_
    refine g_retX (.pur (fa := 206) (.v (AllIs.three fun u v z => ?_)) (by kernel_rfl) (by kernel_rfl))
    rintro ⟨w1, rfl⟩ ⟨w2, rfl⟩ ⟨w3, rfl⟩
    refine ⟨_, _, _, _, t_match w rfl rfl _ _ _, by lia, by lia, fun _ _ => trivial, fun h v h' S hr => ?_⟩
    obtain ⟨rm, dm, rfl, _, hn⟩ := hr
    refine ⟨.val (.ref rm), [(rm, oEq (matchObj (.int bi w1) (.int bj w2) (.int bs w3) dm))], rfl, .one (hn _ (.head _)).1 (hn _ (.head _)).2 rfl, fun v h t hv S => ?_⟩
    cases hv
    exact (hQ _ _ _ _ _ _ S ⟨rm, dm, bi, bj, bs, w1, w2, w3, rfl, newC_of (S.pick (.i [0, 4, 5, 6, 7] (by kernel_rfl))), hBo⟩).1
end
section
open PySem PySem.W PySem.Calls PySem.Spec PyProof PyProof.Rows
theorem lstIn_stays {h h' : Heap} {r : Addr} {as : List SV} (hs : h.StaysIn h') (hl : LstIn h r as) : LstIn h' r as := by
  obtain ⟨vs, h1, h2⟩ := hl
  exact ⟨vs, h1, h2.at fun o e => hs _ _ e⟩
noncomputable def MlR (h : Heap) (bl : List (Nat × Nat × Nat)) (v : Value) (h' : Heap) : Prop := ∃ r vs tl k, v = .ref r ∧ NewIn h h' ((r, W.listOf vs.toArray k) :: tl) ∧ MatsIn tl vs bl ∧ DxIn tl
noncomputable def fM (xI qA mb : Addr) : SF := [("matching_blocks", .val (.ref mb)), ("queue", .val (.ref qA)), ("la", .num (8 : Nat)), ("lb", .num (8 : Nat)), ("self", .val (.ref xI))]
noncomputable def vL (vs : List Value) : Obj → Prop := oLst (vs.map .val)
noncomputable def nM (xI dI b2 jk qA mb : Addr) (es : List DictEntry) (kd : Nat) (oE oJ : Obj) (qv fv : List Value) : SL :=
  [(qA, vL qv), (mb, vL fv), (xI, oEq (instObj 313 dI)), (dI, oEq (dictOf es kd)), (b2, oEq oE), (jk, oEq oJ)]
abbrev tupR (r : Reg) (x y z u : Tok) : Obj := { cls := .type "tuple", data := .seq #[.int (r.1 : Nat) x, .int (r.2.1 : Nat) y, .int (r.2.2.1 : Nat) z, .int (r.2.2.2 : Nat) u] }
noncomputable def oReg (r : Reg) : Obj → Prop := oTup [.num (r.1 : Nat), .num (r.2.1 : Nat), .num (r.2.2.1 : Nat), .num (r.2.2.2 : Nat)]
theorem oReg_is {r : Reg} {o : Obj} (h : oReg r o) : ∃ x y z u, o = tupR r x y z u := by
  obtain ⟨vs, h, rfl⟩ := h
  exact AllIs.four (a := .num (r.1 : Nat)) (b := .num (r.2.1 : Nat)) (c := .num (r.2.2.1 : Nat)) (d := .num (r.2.2.2 : Nat)) (P := fun vs => ∃ x y z u, ({ cls := .type "tuple", data := .seq vs.toArray 0 } : Obj) = tupR r x y z u) (fun u v z y ⟨x, e1⟩ ⟨y', e2⟩ ⟨z', e3⟩ ⟨u', e4⟩ => ⟨x, y', z', u', by rw [e1, e2, e3, e4]⟩) vs h
theorem oReg_of {r : Reg} {x y z u : Tok} : oReg r (tupR r x y z u) := ⟨[.int (r.1 : Nat) x, .int (r.2.1 : Nat) y, .int (r.2.2.1 : Nat) z, .int (r.2.2.2 : Nat) u], ⟨⟨x, rfl⟩, ⟨y, rfl⟩, ⟨z, rfl⟩, ⟨u, rfl⟩, trivial⟩, rfl⟩
theorem vL_app (vs : List Value) (v : Value) : vL (vs ++ [v]) = oLst (vs.map .val ++ [.val v]) := by unfold vL; rw [List.map_append]; rfl
noncomputable def fB (xI qA mb rm : Addr) (r : Reg) (bi bj bs : Nat) : SF := ("x", .val (.ref rm)) :: ("k", .num (bs : Nat)) :: ("j", .num (bj : Nat)) :: ("i", .num (bi : Nat)) :: ("bhi", .num (r.2.2.2 : Nat)) :: ("blo", .num (r.2.2.1 : Nat)) :: ("ahi", .num (r.2.1 : Nat)) :: ("alo", .num (r.1 : Nat)) :: fM xI qA mb
structure NM9 where
  c : Nat × Nat × Nat
  nv : List Value
  tn : List (Addr × Obj)
structure JN (B : List (Nat × Nat × Nat)) (i : Nat) (a : NM9) : Prop where
  hT : TupsIn a.tn a.nv (B.take (i - 1))
  hc : curOk B i a.c
noncomputable def fN (xI qA mb na : Addr) (c : Nat × Nat × Nat) : SF := ("non_adjacent", .val (.ref na)) :: ("k1", .num (c.2.2 : Nat)) :: ("j1", .num (c.2.1 : Nat)) :: ("i1", .num (c.1 : Nat)) :: fM xI qA mb
noncomputable def nN (xI dI b2 jk na : Addr) (es : List DictEntry) (kd : Nat) (oE oJ : Obj) (nv : List Value) : SL :=
  [(na, vL nv), (xI, oEq (instObj 313 dI)), (dI, oEq (dictOf es kd)), (b2, oEq oE), (jk, oEq oJ)]
structure WM where
  queue : List Reg
  found : List (Nat × Nat × Nat)
  qv : List Value
  fv : List Value
  led : List (Addr × Obj)
structure JMq (f g : List Nat) (n : Nat) (a : WM) : Prop where
  hR : RegsIn a.led a.qv a.queue
  hM : MatsIn a.led a.fv a.found
  hok : ∀ r ∈ a.queue, okReg r
  hsum : qsum a.queue = n
  hn : n ≤ 17
  hp : (a.found ++ qblk f g a.queue).Perm (blk f g 0 8 0 8)
set_option maxRecDepth 100000 in
set_option maxHeartbeats 4000000 in
theorem t_gmb (w : World) : PySem.Challenge.rw_ik0097_01 = PySem.Challenge.rw_ik0097_01 → Kx = Kx → ∀ (f g : Str) (x d b2 jk : Addr) (es : List DictEntry) (k : Nat) (oE oJ : Obj) (TB : List (Nat × Addr)), SmOk w f g b2 jk es oE oJ TB → [x, d, b2, jk].Nodup → f.length = 8 → g.length = 8 →
    OwnK w 274 [.ref x] (smN x d b2 jk es k oE oJ) 12 500 (RowsAt g TB) (fun h v h' => MlR h (blocksM 9 f.cps.toList g.cps.toList 0 0 ++ [(8, 8, 0)]) v h') := by
  k_fill
  intro _ _ f g xI dI b2 jk es kd oE oJ TB hS hnd hlf hlg
  obtain ⟨pp, hA⟩ := hS.pp
  obtain ⟨_, ga, _, t, rfl⟩ := hA.get (x := "a") (a := .txt f) (by kernel_rfl)
  obtain ⟨_, gb, _, u, rfl⟩ := hA.get (x := "b") (a := .txt g) (by kernel_rfl)
  obtain ⟨_, gm, rfl⟩ := hA.get (x := "matching_blocks") (a := .val .none) (by kernel_rfl)
  have gf : getL "find_longest_match" es = some none := hA.no (by kernel_rfl)
  have gp : ∀ (t : Tok) (v : Value), getL "matching_blocks" (putL "matching_blocks" (PyData.keyHash w.params "matching_blocks") (.str "matching_blocks" t) v es) = some (some v) := fun t v => by
    obtain ⟨_, h, rfl⟩ := (hA.put (x := "matching_blocks") (a := .val v) (t := t) rfl).get (x := "matching_blocks") (a := .val v) (by kernel_rfl)
    exact h
  have hflm := fun (u1 u2 u3 u4 : Tok) (alo ahi blo bhi : Nat) => t_flm w rfl rfl f g xI dI b2 jk es kd oE oJ TB u1 u2 u3 u4 alo ahi blo bhi hS hnd hlf hlg
  have hed : dictOf es kd ≠ emptyD := fun e => by
    have h := hA.length
    cases e
    exact absurd (show (0 : Nat) = 10 from h) (by decide)
  have hel : es.length ≤ 100 := by rw [hA.length]; exact Nat.le_of_ble_eq_true rfl
  (k_dflt (refine' own_S (by decide) ?k6 ?k7 ?k9 ?kB ?hf0 ?hnd ?_ ?c2 ?c3 ?c4 ?c5; (case k6 => k_is); (case k7 => k_is); (case k9 => (intro _ Xb; first | exact BindsTo.of_eq rfl | exact binds_K (by k_in) rfl (by k_is) rfl rfl rfl)); (case c5 => decide); (case kB => exact locs rfl); (case c2 => exact rfl); (case c3 => exact rfl); (case c4 => exact rfl)); k_whole)
  case hf0 =>
    refine (?_ : AllF _ [("self", .val (.ref xI))])
    exact ⟨⟨_, rfl, rfl⟩, trivial⟩
  case hnd => exact hnd
  intro C hD hU hP Q hQ
  refine g_doc ?_
  refine g_ifT (tst_isNot (ev_attrV gm) rfl) (fun h => nomatch h) (fun _ => g_seq ?_)
  refine g_swap (.cons ((ev_len ((ev_attr (a := .txt f) rfl (by k_mem) (by k_mem) (by kernel_rfl) ga rfl ⟨le_big hlf, _, rfl⟩)) rfl rfl).x (.cons ((ev_len ((ev_attr (a := .txt g) rfl (by k_mem) (by k_mem) (by kernel_rfl) gb rfl ⟨le_big hlg, _, rfl⟩)) rfl rfl).x (.nil ?_)))))
  rw [hlf, hlg]
  refine g_set (.list (.cons (.tuple (.v fun T => .nil fun qA => ?_))))
  refine g_set (.list (.nil fun mb => ?_))
  refine g_to (fM xI qA mb) ((T, oReg (0, 8, 0, 8)) :: nM xI dI b2 jk qA mb es kd oE oJ [.ref T] []) (.i [2, 1, 0, 3, 4, 5, 6] (by kernel_rfl)) ?_ (by kernel_rfl)
  refine g_exact fun oT hT => ?_
  obtain ⟨x1, x2, x3, x4, rfl⟩ := oReg_is hT
  have hqb : (([] : List (Nat × Nat × Nat)) ++ qblk f.cps.toList g.cps.toList [(0, 8, 0, 8)]).Perm (blk f.cps.toList g.cps.toList 0 8 0 8) := by rw [qblk_one]; exact .refl _
  refine g_to (fM xI qA mb) (nM xI dI b2 jk qA mb es kd oE oJ [.ref T] [] ++ oEqs [(T, tupR (0, 8, 0, 8) x1 x2 x3 x4)]) (.i [1, 2, 3, 4, 5, 6, 0] (by kernel_rfl)) ?_ rfl
  refine g_while (α := WM) (JMq f.cps.toList g.cps.toList) (fun _ => fM xI qA mb) (fun a => nM xI dI b2 jk qA mb es kd oE oJ a.qv a.fv ++ oEqs a.led) 17 ⟨[(0, 8, 0, 8)], [], [.ref T], [], _⟩
    ⟨⟨⟨T, x1, x2, x3, x4, rfl, .head _⟩, trivial⟩, trivial, fun r hr => (List.mem_singleton.mp hr) ▸ ⟨by decide, by decide, by decide, by decide⟩, rfl, Nat.le_refl _, hqb⟩ (fun n a hJ => ⟨_, tst_list rfl (.head _) ?_, fun hne Q1 q1 => ?_, fun hne => ?_⟩)
  · rw [List.length_map, hJ.hR.length]
    have h1 := qsum_len a.queue
    have h2 := hJ.hsum
    have h3 := hJ.hn
    unfold big; lia
  · obtain ⟨qs, r, hqr⟩ : ∃ qs r, a.queue = qs ++ [r] := by
      rcases List.eq_nil_or_concat a.queue with e | ⟨qs, r, e⟩
      · have := hJ.hR.length
        rw [e] at this
        exact absurd (by rw [List.length_eq_zero_iff.mp this]; rfl) hne
      · exact ⟨qs, r, by rw [e, List.concat_eq_append]⟩
    have hR := hJ.hR
    rw [hqr] at hR
    obtain ⟨qv', T', y1, y2, y3, y4, hqv, hR', hmT⟩ := hR.last
    have hrk := hJ.hok r (by rw [hqr]; exact List.mem_append_right _ (.head _))
    refine g_part (.pop (D := qA) (as := qv'.map .val) (a := .val (.ref T')) (i := 0) rfl (by show some (qA, oLst (a.qv.map .val)) = _; rw [hqv, List.map_append]; rfl) ?_ ?_)
    · rw [List.length_map, hR'.length]
      have h2 := hJ.hsum
      have h3 := hJ.hn
      have h4 := qsum_len qs
      rw [hqr, qsum_app, qsum_one] at h2
      unfold big; lia
    refine GT.to (nM xI dI b2 jk qA mb es kd oE oJ qv' a.fv ++ oEqs a.led) .rfl ?_
    refine gt_tup (as := [.num (r.1 : Nat), .num (r.2.1 : Nat), .num (r.2.2.1 : Nat), .num (r.2.2.2 : Nat)]) (List.mem_append_right _ (mem_oEqs hmT)) (fun o h => (show o = _ from h) ▸ oReg_of) ?_
    refine g_mat2 (mcls_of w rfl rfl _ (C_in C).1) (.meth (fa := 267) (d := dI) rfl (by k_mem) (by k_mem) (fun o e => ⟨es, kd, e, gf⟩) (by kernel_rfl) (.v (AllIs.four fun u v z y => ?_)))
    rintro ⟨u1, rfl⟩ ⟨u2, rfl⟩ ⟨u3, rfl⟩ ⟨u4, rfl⟩
    refine ⟨_, [(qA, vL qv'), (mb, vL a.fv)] ++ oEqs a.led, _, _, _, _, hflm u1 u2 u3 u4 r.1 r.2.1 r.2.2.1 r.2.2.2 hrk.1 hrk.2.1 hrk.2.2.1 hrk.2.2.2, by lia, by lia, Pick.t2 (.i [2, 3, 4, 5, 0, 1] (by kernel_rfl)), fun _ h _ hs _ r hr => lstIn_stays hs (hP r hr), fun h v h' hr => ?_⟩
    obtain ⟨rm, dm, bi, bj, bs, v1, v2, v3, rfl, hn7, hB⟩ := hr
    refine ⟨.val (.ref rm), _, rfl, hn7, rm, _, [.num bi, .num bj, .num bs], rfl, .head _, fun o h => ⟨_, _, _, _, ⟨⟨v1, rfl⟩, ⟨v2, rfl⟩, ⟨v3, rfl⟩, trivial⟩, h⟩, rfl, ?_⟩
    generalize hm9 : matchObj (.int (bi : Nat) v1) (.int (bj : Nat) v2) (.int (bs : Nat) v3) dm = oM
    refine g_to (fB xI qA mb rm r bi bj bs) ((rm, oEq oM) :: nM xI dI b2 jk qA mb es kd oE oJ qv' a.fv ++ oEqs a.led) (.t3 (.i [0, 5, 6, 1, 2, 3, 4] (by kernel_rfl))) ?_ (by kernel_rfl)
    have M := hB.1
    have a0 := M.a0; have a1 := M.a1; have b0 := M.b0; have b1 := M.b1
    have r2 := hrk.2.1; have r4 := hrk.2.2.2
    have lf : f.cps.toList.length = 8 := by rw [length_toList]; exact hlf
    have lg : g.cps.toList.length = 8 := by rw [length_toList]; exact hlg
    have hsum := hJ.hsum
    rw [hqr, qsum_app, qsum_one] at hsum
    have hn17 := hJ.hn
    have hp9 := hJ.hp
    rw [hqr, qblk_app, qblk_one] at hp9
    have hfl := hJ.hM.length
    have hfb := blk_count (f := f.cps.toList) (g := g.cps.toList) lf lg
    have hpl := hJ.hp.length_eq
    rw [List.length_append] at hpl
    have hql := hR'.length
    have hqq := qsum_len qs
    refine g_if (fun hk => ?_) (fun hk => ?_)
    · have hbs : bs ≠ 0 := by lia
      rw [blk_step (by lia) (by lia) hrk.1 hrk.2.2.1 hB hbs] at hp9
      have fin : ∀ (ql : List Reg) (qlv : List Value) (nl : List (Addr × Obj)), RegsIn nl qlv ql → (∀ r ∈ ql, okReg r) → qblk f.cps.toList g.cps.toList ql = blk f.cps.toList g.cps.toList r.1 bi r.2.2.1 bj ++ blk f.cps.toList g.cps.toList (bi + bs) r.2.1 (bj + bs) r.2.2.2 → qsum ql ≤ (2 * (bi - r.1) + 1) + (2 * (r.2.1 - (bi + bs)) + 1) →
          G C [] (fB xI qA mb rm r bi bj bs) ((rm, oEq oM) :: nM xI dI b2 jk qA mb es kd oE oJ (qv' ++ qlv) (a.fv ++ [.ref rm]) ++ oEqs (nl ++ a.led)) Q1 [] := fun ql qlv nl h1 h2 h3 h4 => by
        refine g_wnext q1 (qsum (qs ++ ql)) ⟨qs ++ ql, a.found ++ [(bi, bj, bs)], qv' ++ qlv, a.fv ++ [.ref rm], (rm, oM) :: (nl ++ a.led)⟩ (.t2 (a := nM xI dI b2 jk qA mb es kd oE oJ (qv' ++ qlv) (a.fv ++ [.ref rm])) (b := [(rm, oEq oM)]) (.i [1, 2, 3, 4, 5, 6, 0] (by kernel_rfl))) (by rw [qsum_app]; lia) ⟨?_, ?_, ?_, rfl, by rw [qsum_app]; lia, ?_⟩ (by kernel_rfl)
        · exact (hR'.more fun p hp => .tail _ (List.mem_append_right _ hp)).append (h1.more fun p hp => .tail _ (List.mem_append_left _ hp))
        · exact (hJ.hM.more fun p hp => .tail _ (List.mem_append_right _ hp)).append ⟨⟨rm, v1, v2, v3, dm, rfl, hm9 ▸ .head _⟩, trivial⟩
        · intro r' hr'
          rcases List.mem_append.mp hr' with hr' | hr'
          · exact hJ.hok r' (by rw [hqr]; exact List.mem_append_left _ hr')
          · exact h2 r' hr'
        · show (a.found ++ [(bi, bj, bs)] ++ qblk f.cps.toList g.cps.toList (qs ++ ql)).Perm _
          rw [qblk_app, h3]
          exact perm_mid hp9
      refine g_append (as0 := a.fv.map .val) rfl (by k_mem) (.v ⟨2, a.fv.map .val, rfl, ?_, ?_⟩)
      · rw [List.length_map]; unfold big; lia
      refine g_to (fB xI qA mb rm r bi bj bs) ((rm, oEq oM) :: nM xI dI b2 jk qA mb es kd oE oJ qv' (a.fv ++ [.ref rm]) ++ oEqs a.led) (.t (l := (rm, oEq oM) :: (nM xI dI b2 jk qA mb es kd oE oJ qv' a.fv).set 1 (mb, oLst (a.fv.map .val ++ [.val (.ref rm)]))) (.i [0, 1, 2, 3, 4, 5, 6] (by unfold nM; rw [vL_app a.fv]; kernel_rfl))) ?_ rfl
      refine g_then (α := List Reg × List Value × List (Addr × Obj)) (fun c => RegsIn c.2.2 c.2.1 c.1 ∧ (∀ r ∈ c.1, okReg r) ∧ qblk f.cps.toList g.cps.toList c.1 = blk f.cps.toList g.cps.toList r.1 bi r.2.2.1 bj ∧ qsum c.1 ≤ 2 * (bi - r.1) + 1 ∧ c.2.1.length ≤ 1)
        (fun _ => fB xI qA mb rm r bi bj bs) (fun c => (rm, oEq oM) :: nM xI dI b2 jk qA mb es kd oE oJ (qv' ++ c.2.1) (a.fv ++ [.ref rm]) ++ oEqs (c.2.2 ++ a.led)) ?_ fun after => ?_
      · refine prod3 fun ql qlv nl => ?_
        intro hc
        dsimp only at hc ⊢
        refine g_if (fun hk2 => ?_) (fun hk2 => ?_)
        · refine g_append (as0 := (qv' ++ qlv).map .val) rfl (by k_mem) (.tuple (.v fun T2 => ⟨2, (qv' ++ qlv).map .val, rfl, ?_, ?_⟩))
          · rw [List.length_map, List.length_append]; unfold big; have := hc.2.2.2.2; lia
          refine g_to (fB xI qA mb rm r bi bj bs) ((T2, oReg (bi + bs, r.2.1, bj + bs, r.2.2.2)) :: (rm, oEq oM) :: nM xI dI b2 jk qA mb es kd oE oJ (qv' ++ qlv ++ [.ref T2]) (a.fv ++ [.ref rm]) ++ oEqs (nl ++ a.led)) (.t (l := (T2, oReg (bi + bs, r.2.1, bj + bs, r.2.2.2)) :: (rm, oEq oM) :: (nM xI dI b2 jk qA mb es kd oE oJ (qv' ++ qlv) (a.fv ++ [.ref rm])).set 0 (qA, oLst ((qv' ++ qlv).map .val ++ [.val (.ref T2)]))) (.i [0, 1, 2, 3, 4, 5, 6, 7] (by unfold nM; rw [vL_app (qv' ++ qlv)]; kernel_rfl))) ?_ rfl
          refine g_exact fun oT hT => ?_
          obtain ⟨z1, z2, z3, z4, rfl⟩ := oReg_is hT
          have := fin (ql ++ [(bi + bs, r.2.1, bj + bs, r.2.2.2)]) (qlv ++ [.ref T2]) ((T2, _) :: nl) ((hc.1.more fun p hp => .tail _ hp).append ⟨⟨T2, z1, z2, z3, z4, rfl, .head _⟩, trivial⟩) (fun r' hr' => by
            rcases List.mem_append.mp hr' with hr' | hr'
            · exact hc.2.1 r' hr'
            · rw [List.mem_singleton.mp hr']; unfold okReg; dsimp only; lia) (by rw [qblk_app, qblk_one, hc.2.2.1]) (by rw [qsum_app, qsum_one]; have := hc.2.2.2.1; dsimp only; lia)
          rw [← List.append_assoc] at this
          exact g_seq (g_seq (g_to _ _ (.t2 (a := (rm, oEq oM) :: nM xI dI b2 jk qA mb es kd oE oJ (qv' ++ qlv ++ [.ref T2]) (a.fv ++ [.ref rm])) (b := [(T2, oEq (tupR (bi + bs, r.2.1, bj + bs, r.2.2.2) z1 z2 z3 z4))]) (l := (T2, oEq (tupR (bi + bs, r.2.1, bj + bs, r.2.2.2) z1 z2 z3 z4)) :: (rm, oEq oM) :: nM xI dI b2 jk qA mb es kd oE oJ (qv' ++ qlv ++ [.ref T2]) (a.fv ++ [.ref rm])) (tl := oEqs (nl ++ a.led)) (.i [1, 2, 3, 4, 5, 6, 7, 0] (by kernel_rfl))) this rfl))
        · exact g_seq (g_seq (fin ql qlv nl hc.1 hc.2.1 (by rw [hc.2.2.1, blk_none (alo := bi + bs) (by lia) (by lia) (by lia), List.append_nil]) (by have := hc.2.2.2.1; lia)))
      · refine g_if (fun hk2 => ?_) (fun hk2 => ?_)
        · refine g_append (as0 := qv'.map .val) rfl (by k_mem) (.tuple (.v fun T1 => ⟨2, qv'.map .val, rfl, ?_, ?_⟩))
          · rw [List.length_map]; unfold big; lia
          refine g_to (fB xI qA mb rm r bi bj bs) ((T1, oReg (r.1, bi, r.2.2.1, bj)) :: (rm, oEq oM) :: nM xI dI b2 jk qA mb es kd oE oJ (qv' ++ [.ref T1]) (a.fv ++ [.ref rm]) ++ oEqs a.led) (.t (l := (T1, oReg (r.1, bi, r.2.2.1, bj)) :: (rm, oEq oM) :: (nM xI dI b2 jk qA mb es kd oE oJ qv' (a.fv ++ [.ref rm])).set 0 (qA, oLst (qv'.map .val ++ [.val (.ref T1)]))) (.i [0, 1, 2, 3, 4, 5, 6, 7] (by unfold nM; rw [vL_app qv']; kernel_rfl))) ?_ rfl
          refine g_exact fun oT hT => ?_
          obtain ⟨z1, z2, z3, z4, rfl⟩ := oReg_is hT
          exact g_seq (g_to _ _ (.t2 (a := (rm, oEq oM) :: nM xI dI b2 jk qA mb es kd oE oJ (qv' ++ [.ref T1]) (a.fv ++ [.ref rm])) (b := [(T1, oEq (tupR (r.1, bi, r.2.2.1, bj) z1 z2 z3 z4))]) (l := (T1, oEq (tupR (r.1, bi, r.2.2.1, bj) z1 z2 z3 z4)) :: (rm, oEq oM) :: nM xI dI b2 jk qA mb es kd oE oJ (qv' ++ [.ref T1]) (a.fv ++ [.ref rm])) (tl := oEqs a.led) (.i [1, 2, 3, 4, 5, 6, 7, 0] (by kernel_rfl))) (after ([(r.1, bi, r.2.2.1, bj)], [.ref T1], [(T1, _)]) ⟨⟨⟨T1, z1, z2, z3, z4, rfl, .head _⟩, trivial⟩, fun r' hr' => (List.mem_singleton.mp hr') ▸ (by unfold okReg; dsimp only; lia), qblk_one _ _ _, Nat.le_refl _, Nat.le_refl _⟩) rfl)
        · have := after ([], [], []) ⟨trivial, fun _ h => (nomatch h), (blk_none (by lia) (by lia) (by lia)).symm, Nat.zero_le _, Nat.zero_le _⟩
          dsimp only at this
          rw [List.append_nil, List.nil_append] at this
          exact g_seq this
    · have hbs : bs = 0 := by lia
      subst hbs
      rw [blk_zero (by lia) (by lia) hrk.1 hrk.2.2.1 hB, List.append_nil] at hp9
      exact g_seq (g_wnext q1 (qsum qs) ⟨qs, a.found, qv', a.fv, a.led⟩ (.t (.i [1, 2, 3, 4, 5, 6] (by kernel_rfl))) (by lia) ⟨hR', hJ.hM, fun r' hr' => hJ.hok r' (by rw [hqr]; exact List.mem_append_left _ hr'), rfl, by lia, hp9⟩ (by kernel_rfl))
  · have hq0 : a.qv = [] := by
      have := Classical.not_not.mp hne
      exact List.map_eq_nil_iff.mp this
    have hq1 : a.queue = [] := List.length_eq_zero_iff.mp (by rw [← hJ.hR.length, hq0]; rfl)
    have hperm := hJ.hp
    rw [hq1, show qblk f.cps.toList g.cps.toList [] = [] from rfl, List.append_nil] at hperm
    rw [hq0]
    have lf : f.cps.toList.length = 8 := by rw [length_toList]; exact hlf
    have lg : g.cps.toList.length = 8 := by rw [length_toList]; exact hlg
    obtain ⟨hb1, hb2⟩ := blk_ok (f := f.cps.toList) (g := g.cps.toList) 8 0 8 0 8 (by lia) (by lia) (by lia) (by lia) (by lia)
    have hb3 := ahead_lt hb2 fun b hb => (hb1 b hb).2
    have hb5 := blk_count lf lg
    have hE : oE.cls ≠ .ref 206 := by obtain ⟨_, _, hx, _⟩ := id hS.fDict; rw [hx.1]; intro e; cases e
    have hJ9 : oJ.cls ≠ .ref 206 := by obtain ⟨hx, _⟩ := id hS.fJunk; rw [hx.1]; intro e; cases e
    have hM := hJ.hM
    refine g_sort (vs := a.fv) (i := 1) (led := a.led) (bl := a.found) (mcls_of w rfl rfl _ (C_in C).1) (by simp only [Around.in1]; lia) rfl rfl (fun p hp => List.mem_append_right _ (mem_oEqs hp)) (fun b o hc hb => ?_) hM (by rw [hperm.length_eq]; exact hb5) ?_ fun vs bl hpb hsb hMb => ?_
    · obtain ⟨P, hm, hP⟩ := hb
      rcases List.mem_append.mp hm with hm | hm
      · have lst : ∀ vs : List Value, vL vs o → False := fun vs h => by
          obtain ⟨k, rfl⟩ := oLst_vals h
          cases hc
        rcases List.mem_cons.mp hm with e | hm
        · cases e; exact (lst _ hP).elim
        rcases List.mem_cons.mp hm with e | hm
        · cases e; exact (lst _ hP).elim
        rcases List.mem_cons.mp hm with e | hm
        · cases e; cases hP; cases hc
        rcases List.mem_cons.mp hm with e | hm
        · cases e; cases hP; cases hc
        rcases List.mem_cons.mp hm with e | hm
        · cases e; cases hP; exact absurd hc hE
        · cases List.mem_singleton.mp hm; cases hP; exact absurd hc hJ9
      · obtain ⟨p, hp, e⟩ := List.mem_map.mp hm
        cases e
        cases hP
        exact hp
    · refine (hperm.map (·.1)).nodup_iff.mpr ?_
      unfold List.Nodup
      rw [List.pairwise_map]
      exact hb3.imp fun h => Nat.ne_of_lt h
    obtain rfl : bl = blk f.cps.toList g.cps.toList 0 8 0 8 := sorted_eq (hpb.trans hperm) hsb hb3
    have hbi := blk_is lf lg
    generalize blk f.cps.toList g.cps.toList 0 8 0 8 = B at *
    refine g_chain3 ?_
    refine g_set (.list (.nil fun na => ?_))
    refine g_forT (.v ⟨mb, rfl, ?_⟩)
    refine OverT.to (fN xI qA mb na (0, 0, 0)) ((mb, oLst (vs.map .val)) :: nN xI dI b2 jk na es kd oE oJ [] ++ oEqs a.led) (.t (l := (na, oLst []) :: (nM xI dI b2 jk qA mb es kd oE oJ [] a.fv).set 1 (mb, oLst (vs.map .val))) (.i [2, 0, 3, 4, 5, 6] (by kernel_rfl))) ?_ (by kernel_rfl)
    refine overT_own (α := NM9) (as := vs.map .val) (fun _ h => h) (JN B) (fun _ b => fN xI qA mb na b.c) (fun _ b => nN xI dI b2 jk na es kd oE oJ b.nv ++ oEqs (b.tn ++ a.led)) ⟨(0, 0, 0), [], []⟩ ⟨trivial, .inl ⟨rfl, rfl⟩⟩ (fun i b v own s9 hv hJN Q2 q2 => ?_) (fun b hJN => ?_)
    · have hil : i < B.length := by
        rw [← hMb.length]
        rcases Nat.lt_or_ge i vs.length with h | h
        · exact h
        · rw [List.getElem?_eq_none (by rw [List.length_map]; exact h)] at hv; cases hv
      obtain ⟨e, aT, y1, y2, y3, dx, hb, hva, hma⟩ := hMb.get hil
      rw [List.getElem?_map, hva] at hv
      obtain rfl := Option.some.inj hv
      have hcase := cur_cases hb2 (fun b hb => (hb1 b hb).2) hJN.hc hb
      have hT := hJN.hT
      have hnl : b.nv.length ≤ 5 := by rw [hT.length]; exact Nat.le_trans (List.length_take_le' ..) (by assumption)
      refine gt_mat (as := [.num (e.1 : Nat), .num (e.2.1 : Nat), .num (e.2.2 : Nat)]) (mcls_of w rfl rfl _ (C_in C).1) (List.mem_append_right _ (mem_oEqs (List.mem_append_right _ hma))) (fun o h => ⟨_, _, _, _, ⟨⟨y1, rfl⟩, ⟨y2, rfl⟩, ⟨y3, rfl⟩, trivial⟩, h⟩) ?_
      refine g_if (fun q => ?_) (fun q => ?_)
      · have q1 := q.1
        have q3 := q.2
        obtain ⟨hi0, hc0⟩ : i = 0 ∧ b.c = (0, 0, 0) := by
          rcases hcase with h | ⟨_, _, h, _⟩
          · exact h
          · exact absurd (by constructor <;> lia) h
        rw [hc0] at q1 q3
        dsimp only at q1 q3
        obtain ⟨e1, e2, e3⟩ := e
        dsimp only at q1 q3 hb ⊢
        obtain rfl : e1 = 0 := by lia
        obtain rfl : e2 = 0 := by lia
        refine g_aug ?_
        rw [hc0, show ((((0, 0, 0) : Nat × Nat × Nat).2.2 : Nat) : Int) + ((e3 : Nat) : Int) = (e3 : Nat) by simp]
        exact g_seq (g_nnext q2 ⟨(0, 0, e3), b.nv, b.tn⟩ .rfl ⟨by subst hi0; exact hT, .inr ⟨Nat.succ_pos _, hb⟩⟩ (by kernel_rfl))
      · refine g_then (α := List Value × List (Addr × Obj)) (fun d => TupsIn d.2 d.1 (B.take i)) (fun _ => ("k2", .num (e.2.2 : Nat)) :: ("j2", .num (e.2.1 : Nat)) :: ("i2", .num (e.1 : Nat)) :: fN xI qA mb na b.c) (fun d => nN xI dI b2 jk na es kd oE oJ d.1 ++ oEqs (d.2 ++ a.led)) (fun d hd => ?_) fun after => ?_
        · refine g_swap (.v ?_)
          exact g_seq (g_nnext q2 ⟨e, d.1, d.2⟩ .rfl ⟨hd, .inr ⟨Nat.succ_pos _, hb⟩⟩ (by kernel_rfl))
        · refine g_if (fun hk => ?_) (fun hk => ?_)
          · obtain ⟨hi0, hpos, hna, htk⟩ := hcase.resolve_left (fun h => hk (by rw [h.2]; rfl))
            refine g_append (as0 := b.nv.map .val) rfl (by k_mem) (.tuple (.v fun T1 => ⟨1, b.nv.map .val, rfl, ?_, ?_⟩))
            · rw [List.length_map]; unfold big; lia
            refine g_to (("k2", .num (e.2.2 : Nat)) :: ("j2", .num (e.2.1 : Nat)) :: ("i2", .num (e.1 : Nat)) :: fN xI qA mb na b.c) ((T1, o3 b.c) :: nN xI dI b2 jk na es kd oE oJ (b.nv ++ [.ref T1]) ++ oEqs (b.tn ++ a.led)) (.t (l := (T1, o3 b.c) :: (nN xI dI b2 jk na es kd oE oJ b.nv).set 0 (na, oLst (b.nv.map .val ++ [.val (.ref T1)]))) (.i [0, 1, 2, 3, 4, 5] (by unfold nN; rw [vL_app b.nv]; kernel_rfl))) ?_ (by kernel_rfl)
            refine g_exact fun oT hT1 => ?_
            obtain ⟨z1, z2, z3, rfl⟩ := o3_is hT1
            exact g_seq (g_to _ _ (.t2 (a := nN xI dI b2 jk na es kd oE oJ (b.nv ++ [.ref T1])) (b := [(T1, oEq (tup3 b.c z1 z2 z3))]) (l := (T1, oEq (tup3 b.c z1 z2 z3)) :: nN xI dI b2 jk na es kd oE oJ (b.nv ++ [.ref T1])) (tl := oEqs (b.tn ++ a.led)) (.i [1, 2, 3, 4, 5, 0] (by kernel_rfl))) (after (b.nv ++ [.ref T1], (T1, tup3 b.c z1 z2 z3) :: b.tn) (by rw [htk]; exact (hT.more fun p hp => .tail _ hp).append ⟨⟨T1, z1, z2, z3, rfl, .head _⟩, trivial⟩)) rfl)
          · have hi0 : i = 0 := by
              rcases hcase with h | ⟨_, h, _⟩
              · exact h.1
              · lia
            exact g_seq (g_to _ _ .rfl (after (b.nv, b.tn) (by subst hi0; exact hT)) (by kernel_rfl))
    · rw [show (vs.map SV.val).length = B.length by rw [List.length_map]; exact hMb.length] at hJN
      have hT := hJN.hT
      have hnl : b.nv.length ≤ 5 := by rw [hT.length]; exact Nat.le_trans (List.length_take_le' ..) (by assumption)
      refine g_to (fN xI qA mb na b.c) (nN xI dI b2 jk na es kd oE oJ b.nv ++ oEqs (b.tn ++ a.led)) (.t (l := (mb, oLst (vs.map .val)) :: nN xI dI b2 jk na es kd oE oJ b.nv) (.i [1, 2, 3, 4, 5] (by kernel_rfl))) ?_ rfl
      refine g_then (α := List Value × List (Addr × Obj)) (fun d => TupsIn d.2 d.1 B) (fun _ => fN xI qA mb na b.c) (fun d => nN xI dI b2 jk na es kd oE oJ d.1 ++ oEqs (d.2 ++ a.led)) (fun d hd => ?_) fun after => ?_
      · have hdl := hd.length
        refine g_append (as0 := d.1.map .val) rfl (by k_mem) (.tuple (.v fun T1 => ⟨1, d.1.map .val, rfl, ?_, ?_⟩))
        · rw [List.length_map]; unfold big; lia
        refine g_to (fN xI qA mb na b.c) ((T1, o3 (8, 8, 0)) :: nN xI dI b2 jk na es kd oE oJ (d.1 ++ [.ref T1]) ++ oEqs (d.2 ++ a.led)) (.t (l := (T1, o3 (8, 8, 0)) :: (nN xI dI b2 jk na es kd oE oJ d.1).set 0 (na, oLst (d.1.map .val ++ [.val (.ref T1)]))) (.i [0, 1, 2, 3, 4, 5] (by unfold nN; rw [vL_app d.1]; kernel_rfl))) ?_ rfl
        refine g_exact fun oT hT1 => ?_
        obtain ⟨z1, z2, z3, rfl⟩ := o3_is hT1
        refine' g_setattr (.listmap (na := na) (nv := d.1 ++ [.ref T1]) (bl := B ++ [(8, 8, 0)]) (led := (T1, tup3 (8, 8, 0) z1 z2 z3) :: d.2) (keep := [(xI, oEq (instObj 313 dI)), (dI, oEq (dictOf es kd))]) (t_make w rfl rfl) (by lia) (by lia) ?h1 ?h2 ?h3 ?h4 (by kernel_rfl) rfl (.tail _ (.head _)) ((hd.more fun p hp => .tail _ hp).append ⟨⟨T1, z1, z2, z3, rfl, .head _⟩, trivial⟩) ?h5 (by simp; lia) ?h6 ?h7 ?_)
        case h1 => k_dflt k_is
        case h2 => k_dflt k_is
        case h3 => k_dflt k_is
        case h4 => k_dflt k_is
        case h5 =>
          intro p hp
          rcases List.mem_cons.mp hp with rfl | hp
          · exact .head _
          · exact .tail _ (List.mem_append_right _ (mem_oEqs (List.mem_append_left _ hp)))
        case h6 => exact .trans (.i [2, 3] (by kernel_rfl)) (Pick.left (l := (T1, oEq (tup3 (8, 8, 0) z1 z2 z3)) :: nN xI dI b2 jk na es kd oE oJ (d.1 ++ [.ref T1])))
        case h7 =>
          intro a P hm o hP
          rcases List.mem_cons.mp hm with e | hm
          · cases e; cases hP; exact ⟨fun e => (by cases e), fun e => (by cases e)⟩
          · cases List.mem_singleton.mp hm; cases hP; exact ⟨fun e => (by cases e), hed⟩
        intro r made acc c hMc hdx9
        refine ⟨.ref r, xI, 313, dI, es, kd, 1, rfl, rfl, .head _, rfl, by kernel_rfl, by rw [gm]; rfl, hel, ?_⟩
        refine g_to [("self", .val (.ref xI))] ((dI, fun o => ∃ t, o = dictOf (putL "matching_blocks" (PyData.keyHash w.params "matching_blocks") (.str "matching_blocks" t) (.ref r) es) (putN "matching_blocks" es kd)) :: ((xI, oEq (instObj 313 dI)) :: oEqs ((r, PySem.W.listOf acc.toArray c) :: made))) (.perm (.swap _ _ _)) ?_ (by kernel_rfl)
        refine g_exact fun o ho => ?_
        obtain ⟨t9, rfl⟩ := ho
        refine g_retX ((ev_attr (X := xI) (c := 313) (d := dI) (v := .ref r) (a := .val (.ref r)) rfl (.tail _ (.head _)) (.head _) (by kernel_rfl) (gp _ _) rfl rfl).x fun v h t hv S => ?_)
        cases hv
        refine (hQ _ _ _ _ _ _ S ⟨r, acc, made, c, rfl, fun p hp => ?_, ?_, hdx9⟩).1
        · obtain ⟨o, h1, h2, _, h3⟩ := S.at' (a := p.1) (P := oEq p.2) (.tail _ (.tail _ (mem_oEqs hp)))
          cases h2
          exact ⟨h3, h1⟩
        · rw [← hbi]; exact hMc
      · refine g_if (fun hk => ?_) (fun hk => ?_)
        · obtain ⟨hz, hc⟩ := hJN.hc.resolve_left (fun h => hk (by rw [h.2]; rfl))
          refine g_append (as0 := b.nv.map .val) rfl (by k_mem) (.tuple (.v fun T1 => ⟨1, b.nv.map .val, rfl, ?_, ?_⟩))
          · rw [List.length_map]; unfold big; lia
          refine g_to (fN xI qA mb na b.c) ((T1, o3 b.c) :: nN xI dI b2 jk na es kd oE oJ (b.nv ++ [.ref T1]) ++ oEqs (b.tn ++ a.led)) (.t (l := (T1, o3 b.c) :: (nN xI dI b2 jk na es kd oE oJ b.nv).set 0 (na, oLst (b.nv.map .val ++ [.val (.ref T1)]))) (.i [0, 1, 2, 3, 4, 5] (by unfold nN; rw [vL_app b.nv]; kernel_rfl))) ?_ (by kernel_rfl)
          refine g_exact fun oT hT1 => ?_
          obtain ⟨z1, z2, z3, rfl⟩ := o3_is hT1
          exact g_seq (g_to _ _ (.t2 (a := nN xI dI b2 jk na es kd oE oJ (b.nv ++ [.ref T1])) (b := [(T1, oEq (tup3 b.c z1 z2 z3))]) (l := (T1, oEq (tup3 b.c z1 z2 z3)) :: nN xI dI b2 jk na es kd oE oJ (b.nv ++ [.ref T1])) (tl := oEqs (b.tn ++ a.led)) (.i [1, 2, 3, 4, 5, 0] (by kernel_rfl))) (after (b.nv ++ [.ref T1], (T1, tup3 b.c z1 z2 z3) :: b.tn) (by
            have e1 : B.take (B.length - 1 + 1) = B.take (B.length - 1) ++ [b.c] := by rw [List.take_add_one, hc]; rfl
            rw [show B.length - 1 + 1 = B.length by lia, List.take_length] at e1
            rw [e1]
            exact (hT.more fun p hp => .tail _ hp).append ⟨⟨T1, z1, z2, z3, rfl, .head _⟩, trivial⟩)) rfl)
        · have hz : B.length = 0 := by
            rcases hJN.hc with h | ⟨_, h⟩
            · exact h.1
            · have := (hb1 _ (List.mem_of_getElem? h)).2
              lia
          exact g_seq (after (b.nv, b.tn) (by
            rw [hz] at hT
            rw [List.length_eq_zero_iff.mp hz]
            simpa using hT))
end
section
open PySem PySem.W PySem.Calls PySem.Spec PyProof PyProof.Rows
noncomputable def Octs (ns : List Int) : Prop := ns.length = 6 ∧ ∀ n ∈ ns, 0 ≤ n ∧ n < 256
noncomputable def alphaS : Str := Str.ofString "ABCDEFGHIJKLMNOPQRSTUVWXYZabcdefghijklmnopqrstuvwxyz0123456789+/"
noncomputable def code3 (a b c : Int) : List Nat :=
  [alphaS.cps.toList.getD ((a * 65536 + b * 256 + c) / 262144 % 64).toNat 0, alphaS.cps.toList.getD ((a * 65536 + b * 256 + c) / 4096 % 64).toNat 0,
   alphaS.cps.toList.getD ((a * 65536 + b * 256 + c) / 64 % 64).toNat 0, alphaS.cps.toList.getD ((a * 65536 + b * 256 + c) % 64).toNat 0]
noncomputable def codedM (ns : List Int) : List Nat := code3 (ns.getD 0 0) (ns.getD 1 0) (ns.getD 2 0) ++ code3 (ns.getD 3 0) (ns.getD 4 0) (ns.getD 5 0)
theorem item_int (g : Str) {k : Int} (h : 0 ≤ k) : Txt.item g k = ⟨[g.cps.toList.getD k.toNat 0].toArray⟩ := by
  obtain ⟨e, rfl⟩ := Int.eq_ofNat_of_zero_le h
  unfold Txt.item Txt.charAt seqIndex?
  have h0 : ¬ (e : Int) < 0 := by lia
  simp only [h0, if_false, Int.toNat_natCast]
  by_cases h : e < g.length
  · have h' : e < g.cps.size := h
    simp [h', List.getD_eq_getElem?_getD, Str.length]
  · have h' : ¬ e < g.cps.size := h
    simp [h', List.getD_eq_getElem?_getD, Str.length]
end
section
open PySem PySem.W PySem.Calls PySem.Spec PyProof PyProof.Rows
inductive ChgR (h : Heap) (v : Value) (h' : Heap) : Prop
  | mk (D : Addr) (ns : List Int) (e : v = .ref D) (hn : NewC h h' [(D, oLst (ns.map .num))]) (ho : Octs ns)
set_option maxRecDepth 100000 in
set_option maxHeartbeats 800000 in
theorem t_changed (w : World) : PySem.Challenge.rw_ik0097_01 = PySem.Challenge.rw_ik0097_01 → Kx = Kx → ∀ (r q : Addr) (ns ms : List Int), Octs ns → ms.length ≤ 4 →
    Pur w 324 [.ref r, .ref q] 3 100 (fun h => LstIn h r (ns.map .num) ∧ LstIn h q (ms.map .num)) ChgR := by
  k_fill
  intro _ _ r q ns ms hoc hul
  (k_dflt (refine' pur_S (by first | decide | lia) ?k6 ?k7 ?k9 ?kB ?hf0 ?_ ?c2 ?c3 ?c4 ?c5; (case k6 => k_is); (case k7 => k_is); (case k9 => (intro _ Xb; first | exact BindsTo.of_eq rfl | exact binds_K (by k_in) rfl (by k_is) rfl rfl rfl)); (case c5 => decide); (case kB => exact locs rfl); (case c2 => exact rfl); (case c3 => exact rfl); (case c4 => exact rfl)); k_whole)
  case hf0 =>
    refine (?_ : AllF _ [("numbers", .val (.ref q)), ("row", .val (.ref r))])
    exact ⟨⟨_, rfl, rfl⟩, ⟨_, rfl, rfl⟩, trivial⟩
  intro C hD hU ⟨⟨vs, hvs, hr⟩, ⟨us, hus, hq⟩⟩ Q hQ
  refine g_set (.listOf ev (.base hr hvs) (by rw [List.length_map, hoc.1]; decide) fun D => ?_)
  refine g_to [("other", .val (.ref D)), ("numbers", .val (.ref q)), ("row", .val (.ref r))] [(D, oLst (ns.map .num))] .rfl ?_ (by kernel_rfl)
  refine g_forX (.v ⟨q, rfl, over_base (α := List Int) hq hus (fun _ ns => Octs ns) (fun _ _ => [("other", .val (.ref D)), ("numbers", .val (.ref q)), ("row", .val (.ref r))]) (fun _ ns => [(D, oLst (ns.map .num))]) ns hoc (fun i ns c own hc ho Q2 q2 => ?_) (fun ns ho => ?_)⟩)
  · rw [List.getElem?_map] at hc
    obtain ⟨x, _, rfl⟩ := Option.map_eq_some_iff.mp hc
    have e : (x.fdiv 6).fmod 256 = (x.fdiv 6) % 256 := Int.fmod_eq_emod_of_nonneg _ (by decide)
    have e6 : x.fmod 6 = x % 6 := Int.fmod_eq_emod_of_nonneg _ (by decide)
    have h6 : (x.fmod 6).toNat < ns.length := by rw [ho.1, e6]; lia
    refine g_setItem (i := 0) (as := ns.map .num) (ev (hp := by exact ⟨by decide, ⟨by decide, PyProof.noPylong_small (by decide)⟩, trivial⟩)) ev (ev (hp := by exact ⟨by decide, trivial⟩)) rfl (by rw [e6]; exact Int.emod_nonneg _ (by decide)) (by rw [List.length_map]; exact h6) (by rw [e6]; lia) ?_
    exact g_lnext q2 (ns.set (x.fmod 6).toNat ((x.fdiv 6).fmod 256)) (.i [0] (by rw [List.map_set]; kernel_rfl)) ⟨by rw [List.length_set]; exact ho.1, fun n hn => by
      rcases List.mem_or_eq_of_mem_set hn with h | h
      · exact ho.2 n h
      · rw [h, e]; lia⟩ (by kernel_rfl)
  · exact g_ret (a := .val (.ref D)) fun v h t hv S => (hQ _ _ _ _ _ _ S (by
      obtain ⟨o, h1, h2, _, h3⟩ := S.at' (.head _)
      exact ⟨D, ns, hv, .one h3 h1 h2, ho⟩)).1
theorem code_is {a b c : Int} (h : 0 ≤ a * 65536 + b * 256 + c) {e : Nat} (he : e < 4) : Txt.item alphaS (((a * 65536 + b * 256 + c).fdiv (64 ^ (3 - e))).fmod 64) = ⟨[(code3 a b c).getD e 0].toArray⟩ := by
  have k : ∀ d : Int, 0 ≤ d → Txt.item alphaS (((a * 65536 + b * 256 + c).fdiv d).fmod 64) = ⟨[alphaS.cps.toList.getD ((a * 65536 + b * 256 + c) / d % 64).toNat 0].toArray⟩ := fun d hd => by
    rw [Int.fdiv_eq_ediv_of_nonneg _ hd, Int.fmod_eq_emod_of_nonneg _ (by decide), item_int _ (Int.emod_nonneg _ (by decide))]
  match e, he with
  | 0, _ => exact k 262144 (by decide)
  | 1, _ => exact k 4096 (by decide)
  | 2, _ => exact k 64 (by decide)
  | 3, _ => exact (k 1 (by decide)).trans (by rw [Int.ediv_one]; rfl)
noncomputable def nK (cn ca : Addr) : SL := [(cn, oCellU), (ca, oCell (.txt alphaS))]
noncomputable def nK2 (cn ca : Addr) (M : Int) : SL := [(cn, oCell (.num M)), (ca, oCell (.txt alphaS))]
noncomputable def fK (r : Addr) (ns : List Int) (i : Nat) : SF := [("coded", sx ((codedM ns).take (4 * i))), ("row", .val (.ref r))]
noncomputable def bK (a b c : Int) (j : Nat) : List SV := ((code3 a b c).take j).map fun z => sx [z]
theorem bK_succ {a b c : Int} {j : Nat} (h : j < 4) : bK a b c (j + 1) = bK a b c j ++ [sx [(code3 a b c).getD j 0]] :=
  match j, h with
  | 0, _ => rfl
  | 1, _ => rfl
  | 2, _ => rfl
  | 3, _ => rfl
theorem coded_succ {ns : List Int} {i : Nat} (h : i < 2) : (codedM ns).take (4 * (i + 1)) = (codedM ns).take (4 * i) ++ code3 (ns.getD (i * 3) 0) (ns.getD (i * 3 + 1) 0) (ns.getD (i * 3 + 2) 0) :=
  match i, h with
  | 0, _ => rfl
  | 1, _ => rfl
theorem pow3 {M : Int} {j : Nat} (h : j < 4) : (64 : Int) ^ (((3 - j : Nat) : Int)).toNat ≠ 0 ∧ Builtin.divisionGoesByPylong M (64 ^ (((3 - j : Nat) : Int)).toNat) = false :=
  match j, h with
  | 0, _ => ⟨by decide, PyProof.noPylong_small (by decide)⟩
  | 1, _ => ⟨by decide, PyProof.noPylong_small (by decide)⟩
  | 2, _ => ⟨by decide, PyProof.noPylong_small (by decide)⟩
  | 3, _ => ⟨by decide, PyProof.noPylong_small (by decide)⟩
theorem vK {j : Nat} (h : j < 4) : (([.num 3, .num 2, .num 1, .num 0] : List SV)[j]?).getD (.val .none) = .num ((3 - j : Nat) : Int) :=
  match j, h with
  | 0, _ => rfl
  | 1, _ => rfl
  | 2, _ => rfl
  | 3, _ => rfl
theorem alpha_len : alphaS.length = 64 := by decide +kernel
theorem idx_ok {M : Int} : -(alphaS.length : Int) ≤ M.fmod 64 ∧ M.fmod 64 < alphaS.length := by
  rw [alpha_len, Int.fmod_eq_emod_of_nonneg _ (by decide)]
  exact ⟨Int.le_trans (by decide) (Int.emod_nonneg _ (by decide)), Int.emod_lt_of_pos _ (by decide)⟩
inductive CodR (ns : List Int) (h : Heap) (v : Value) (h' : Heap) : Prop
  | mk (t : Tok) (e : v = .str ⟨(codedM ns).toArray⟩ t)
set_option maxRecDepth 100000 in
set_option maxHeartbeats 800000 in
theorem t_coded (w : World) : PySem.Challenge.rw_ik0097_01 = PySem.Challenge.rw_ik0097_01 → Kx = Kx → ∀ (r : Addr) (ns : List Int), Octs ns →
    Pur w 329 [.ref r] 3 100 (fun h => LstIn h r (ns.map .num)) (CodR ns) := by
  k_fill
  intro _ _ r ns hoc
  (k_dflt (refine' pur_SC (sp := ?sp) (by first | decide | lia) ?k6 ?k7 ?k9 ?kB ?kD ?hf0 ?hsp ?hcm ?_ ?c2 ?c3 ?c4; (case k6 => k_is); (case k7 => k_is); (case k9 => (intro _ Xb; first | exact BindsTo.of_eq rfl | exact binds_K (by k_in) rfl (by k_is) rfl rfl rfl)); (case kB => exact rfl); (case kD => decide +kernel); (case c2 => exact rfl); (case c3 => exact rfl); (case c4 => exact rfl)); k_whole)
  case hf0 =>
    refine (?_ : AllF _ [("row", .val (.ref r))])
    exact ⟨⟨_, rfl, rfl⟩, trivial⟩
  case sp => exact [("number", none), ("alphabet", none)]
  case hsp => rfl
  case hcm => exact ⟨rfl, rfl, trivial⟩
  intro C hD hU ⟨vs, hvs, hr⟩ ad hl hcl Q hQ
  obtain ⟨cn, ca, rfl⟩ : ∃ c1 c2, ad = [c1, c2] := match ad, hl with | [a, b], _ => ⟨a, b, rfl⟩
  have hg2 : C.cl = ([("number", cn), ("alphabet", ca)] : List (Str × Addr)) := hcl
  refine g_setC (c := ca) (i := 1) (P := oCell0) (by rw [hg2]; rfl) (fun _ => oCell0.is) (.v (a := .txt alphaS) ⟨rfl, ?_⟩ rfl ⟨by decide, trivial⟩)
  refine g_assign ?_ rfl ⟨by decide, trivial⟩
  refine g_to (fK r ns 0) (nK cn ca) (.trans (.head fun _ => oCell0.is) (.i [0, 1] (by kernel_rfl))) ?_ (by kernel_rfl)
  have hl6 : (((ns.map SV.num).length : Nat) : Int) = 6 := by rw [List.length_map, hoc.1]; rfl
  have hit : ∀ j : Nat, j < 6 → ((ns.map SV.num)[Int.toNat (j : Int)]? = some (.num (ns.getD j 0))) := fun j hj => by
    rw [Int.toNat_natCast, List.getElem?_map, List.getD_eq_getElem?_getD, List.getElem?_eq_getElem (by rw [hoc.1]; exact hj)]; rfl
  have hb : ∀ j : Nat, 0 ≤ ns.getD j 0 ∧ ns.getD j 0 < 256 := fun j => by
    rw [List.getD_eq_getElem?_getD]
    cases e : ns[j]? with
    | none => exact ⟨Int.le_refl _, by decide⟩
    | some c => exact hoc.2 c (List.mem_of_getElem? e)
  refine g_for3 (α := Unit) (a := 0) (b := 6) (z := 3) (k := 2) (fun i => ((i * 3 : Nat) : Int)) (fun i => by rw [Int.zero_add, Int.natCast_mul]; rfl) (fun _ _ => True) (fun i _ => fK r ns i) (fun _ _ => nK cn ca) () trivial ev_int (hl6 ▸ ev_lenL ev (.base hr hvs) (by rw [List.length_map, hoc.1]; decide)) ev_int (fun i _ own hi _ Q2 q2 => ?_) (fun _ _ => ?_) (by decide +kernel) (by decide +kernel) (by decide) (PyProof.noPylong_small (by decide))
  · have h0 := hb (i * 3); have h1 := hb (i * 3 + 1); have h2 := hb (i * 3 + 2)
    have hcs := coded_succ (ns := ns) hi
    have hi0 := hit (i * 3) (by lia); have hi1 := hit (i * 3 + 1) (by lia); have hi2 := hit (i * 3 + 2) (by lia)
    generalize ns.getD (i * 3) 0 = a at *
    generalize ns.getD (i * 3 + 1) 0 = b at *
    generalize ns.getD (i * 3 + 2) 0 = c at *
    have hM : 0 ≤ a * 65536 + b * 256 + c := by lia
    refine g_setC (c := cn) (i := 0) (P := oCellU) (by rw [hg2]; rfl) (fun _ h => h) (Ev.x (ev_add (ev_add (ev_mul (ev_itemL ev (.base hr hvs) ev (by lia) (by lia) hi0) ev_int (.of_right (by decide))) (ev_mul (ev_itemL ev (.base hr hvs) ev (by lia) (by lia) hi1) ev_int (.of_right (by decide)))) (ev_itemL ev (.base hr hvs) ev (by lia) (by lia) hi2)) ⟨rfl, ?_⟩)
    have hM2 : a * 65536 + b * 256 + c < 16777216 := by lia
    refine g_set (.adds (ev (a := sx ((codedM ns).take (4 * i))) (hp := by exact trivial)) (.join (.comp (cl := [("number", cn), ("alphabet", ca)]) (g := [("alphabet", .txt alphaS), ("number", .num (a * 65536 + b * 256 + c))]) (.list (.v fun D => .u _ 4 _ _ (bK a b c) (fun _ => (nK2 cn ca (a * 65536 + b * 256 + c))) (.own (as := [.num 3, .num 2, .num 1, .num 0]) (fun _ h => h) (by decide)) .rfl rfl (fun j C' kp' hj T => ?_) (fun D2 => ⟨D2, (code3 a b c).map fun z => [z], rfl, .own (.tail _ (.head _)), (by show 4 ≤ big; decide), (by show 4 ≤ big; decide), _, rfl, ?_, ?_⟩))) (by unfold CxU.env; rw [hg2]; with_unfolding_all rfl))))
    · have O := T.orc (nK2 cn ca (a * 65536 + b * 256 + c)) ⟨⟨ca, rfl, by k_mem⟩, ⟨cn, rfl, by k_mem⟩, trivial⟩
      rw [vK hj] at O
      exact .o O ⟨.rfl, (bK_succ hj).trans (by rw [show (((3 - j : Nat) : Int)).toNat = 3 - j from rfl, code_is hM hj]; rfl)⟩ rfl ⟨idx_ok, by decide, pow3 hj, ⟨Int.natCast_nonneg _, by lia, by decide⟩, trivial⟩
    · show (Str.mk ((codedM ns).take (4 * i)).toArray).length + 4 ≤ big
      rw [mk_len, List.length_take]
      exact Nat.le_trans (Nat.add_le_add_right (Nat.min_le_left _ _) 4) (by unfold big; lia)
    · exact g_lnext q2 () (.trans (b := nK2 cn ca (a * 65536 + b * 256 + c)) (.head fun _ => oCell.is) (.i [2, 3] (by kernel_rfl))) trivial (by unfold fK; rw [hcs]; unfold sx; rw [← str_app]; kernel_rfl)
  · exact g_ret (a := sx (codedM ns)) fun v h t hv S => (hQ _ _ _ _ _ _ S (by
      obtain ⟨_, t, e⟩ := hv
      exact ⟨t, e⟩)).1
inductive IsR (u : Value) (h : Heap) (v : Value) (h' : Heap) : Prop
  | mk (e : v = u)
set_option maxRecDepth 100000 in
set_option maxHeartbeats 800000 in
theorem t_buffer (w : World) : PySem.Challenge.rw_ik0097_01 = PySem.Challenge.rw_ik0097_01 → Kx = Kx → ∀ (b : Array UInt8) (t : Tok),
    Pur w 69 [.bytes b t] 2 60 (fun h => True) (IsR (.bytes b t)) := by
  k_fill
  intro _ _ b t
  (k_dflt (refine' pur_S (by first | decide | lia) ?k6 ?k7 ?k9 ?kB ?hf0 ?_ ?c2 ?c3 ?c4 ?c5; (case k6 => k_is); (case k7 => k_is); (case k9 => (intro _ Xb; first | exact BindsTo.of_eq rfl | exact binds_K (by k_in) rfl (by k_is) rfl rfl rfl)); (case c5 => decide); (case kB => exact locs rfl); (case c2 => exact rfl); (case c3 => exact rfl); (case c4 => exact rfl)); k_whole)
  case hf0 =>
    refine (?_ : AllF _ [("data", .val (.bytes b t))])
    exact ⟨⟨_, rfl, rfl⟩, trivial⟩
  intro C hD hU _ Q hQ
  refine g_set (Ev.x (ev_type (v := .bytes b t) (Tx := "bytes") ev (fun _ => rfl) (by decide +kernel)) ?_)
  refine g_ifT (tst_isP ev (ev_B (v := .type "bytes") (by kernel_rfl) rfl (by decide) rfl (by decide))) (fun _ => ?_) (fun h => absurd rfl h)
  exact g_ret (a := .val (.bytes b t)) fun v h t hv S => (hQ _ _ _ _ _ _ S ⟨hv⟩).1
set_option maxRecDepth 100000 in
set_option maxHeartbeats 800000 in
theorem t_truth (w : World) : PySem.Challenge.rw_ik0097_01 = PySem.Challenge.rw_ik0097_01 → Kx = Kx →
    Pur w 76 [.bool false] 2 60 (fun h => True) (IsR (.bool false)) := by
  k_fill
  intro _ _
  (k_dflt (refine' pur_S (by first | decide | lia) ?k6 ?k7 ?k9 ?kB ?hf0 ?_ ?c2 ?c3 ?c4 ?c5; (case k6 => k_is); (case k7 => k_is); (case k9 => (intro _ Xb; first | exact BindsTo.of_eq rfl | exact binds_K (by k_in) rfl (by k_is) rfl rfl rfl)); (case c5 => decide); (case kB => exact locs rfl); (case c2 => exact rfl); (case c3 => exact rfl); (case c4 => exact rfl)); k_whole)
  case hf0 =>
    refine (?_ : AllF _ [("x", .val (.bool false))])
    exact ⟨⟨_, rfl, rfl⟩, trivial⟩
  intro C hD hU _ Q hQ
  refine g_set (Ev.x (ev_type (v := .bool false) (Tx := "bool") ev (fun _ => rfl) (by decide +kernel)) ?_)
  refine g_ifT (TstW.t (tstW_or (tst_isP ev ev_none) fun _ => tstW_or (q := False) (tst_isP ev (ev_B (v := .type "bool") (by kernel_rfl) rfl (by decide) rfl (by decide))) fun h => absurd rfl h)) (fun _ => ?_) (fun h => absurd (.inr (.inl rfl)) h)
  exact g_retX ((ev_if (p := false = true) tst (fun h => nomatch h) (fun _ => ev_bool)).x fun v h t hv S => (hQ _ _ _ _ _ _ S ⟨hv⟩).1)
end
section
open PySem PySem.W PySem.Calls PySem.Spec PyProof PyProof.Rows
theorem and_shift (a c : Nat) (h : c < 256) : (a * 256) &&& c = 0 := by
  apply Nat.eq_of_testBit_eq
  intro i
  rw [Nat.testBit_and, Nat.zero_testBit]
  rcases Nat.lt_or_ge i 8 with hi | hi
  · rw [Nat.mul_comm, show 256 = 2 ^ 8 from rfl, Nat.testBit_two_pow_mul, decide_eq_false (Nat.not_le.mpr hi), Bool.false_and, Bool.false_and]
  · rw [Nat.testBit_lt_two_pow (Nat.lt_of_lt_of_le h (Nat.pow_le_pow_right (by decide) hi : 2 ^ 8 ≤ 2 ^ i)), Bool.and_false]
theorem or_shift {a c : Int} (ha : 0 ≤ a) (hc : 0 ≤ c ∧ c < 256) : Builtin.bitOr (a * 2 ^ Int.toNat 8) c = a * 256 + c := by
  obtain ⟨a, rfl⟩ := Int.eq_ofNat_of_zero_le ha
  obtain ⟨c, rfl⟩ := Int.eq_ofNat_of_zero_le hc.1
  rw [show (2 : Int) ^ Int.toNat 8 = 256 from rfl, bitOr_and, bitAnd_pp (Int.mul_nonneg ha (by decide)) hc.1, show ((a : Int) * 256).toNat = a * 256 from rfl, show ((c : Nat) : Int).toNat = c from rfl, and_shift _ _ (Int.ofNat_lt.mp hc.2)]
  exact Int.sub_zero _
noncomputable def alphaI : List Int := alphaS.cps.toList.map fun z : Nat => (z : Int)
theorem alphaI_len : alphaI.length = 64 := by decide +kernel
theorem alphaI_get (j : Nat) : alphaI.getD j 0 = ((alphaS.cps.toList.getD j 0 : Nat) : Int) := by
  unfold alphaI
  rw [List.getD_eq_getElem?_getD, List.getD_eq_getElem?_getD, List.getElem?_map]
  cases alphaS.cps.toList[j]? <;> rfl
theorem alphaS_small (j : Nat) : alphaS.cps.toList.getD j 0 < 256 := by
  rcases Nat.lt_or_ge j 64 with h | h
  · exact (by decide +kernel : ∀ j : Fin 64, alphaS.cps.toList.getD j.val 0 < 256) ⟨j, h⟩
  · rw [List.getD_eq_getElem?_getD, List.getElem?_eq_none (by rw [show alphaS.cps.toList.length = 64 by decide +kernel]; exact h)]
    decide
noncomputable def valB (o : Option (Option Value)) : Array UInt8 := match o with | some (some (.bytes B _)) => B | _ => #[]
noncomputable def valT (o : Option (Option Value)) : Tok := match o with | some (some (.bytes _ u)) => u | _ => 0
theorem b64_is (p : Params) : ∃ B u, nsIn (Kx p) mainGlobals "_B64" = some (some (.bytes B u)) ∧ KBw.bInts B = alphaI := ⟨valB (nsIn (Kx p) mainGlobals "_B64"), valT (nsIn (Kx p) mainGlobals "_B64"), by kernel_rfl, by kernel_rfl⟩
noncomputable def al (k : Int) : Nat := alphaS.cps.toList.getD (k % 64).toNat 0
theorem code3_al (a b c : Int) : code3 a b c = [al ((a * 65536 + b * 256 + c) / 262144), al ((a * 65536 + b * 256 + c) / 4096), al ((a * 65536 + b * 256 + c) / 64), al (a * 65536 + b * 256 + c)] := rfl
theorem al_add (k z : Int) : al (z * 64 + k) = al k := by unfold al; rw [Int.mul_add_emod_self_right]
theorem sx1 {a b c : Int} (hb : 0 ≤ b ∧ b < 256) (hc : 0 ≤ c ∧ c < 256) : (a * 65536 + b * 256 + c) / 256 = a * 256 + b := by
  rw [show a * 65536 + b * 256 + c = (a * 256 + b) * 256 + c by rw [Int.add_mul, Int.mul_assoc]; rfl, Int.mul_add_ediv_right _ _ (by decide), Int.ediv_eq_zero_of_lt hc.1 hc.2, Int.add_zero]
theorem dv (x : Int) (k l : Nat) : x / (k * l : Nat) = x / k / l := by rw [Int.ediv_ediv_of_nonneg (Int.natCast_nonneg k), Int.natCast_mul]
theorem sxA (z : Int) {a b c : Int} (hb : 0 ≤ b ∧ b < 256) (hc : 0 ≤ c ∧ c < 256) : al ((a * 65536 + b * 256 + c) / 262144) = al ((z * 256 + a) / 4) := by
  rw [show (262144 : Int) = ((256 * 1024 : Nat) : Int) from rfl, dv, show (((256 : Nat) : Int)) = 256 from rfl, sx1 hb hc, show ((1024 : Nat) : Int) = ((256 * 4 : Nat) : Int) from rfl, dv, show (((256 : Nat) : Int)) = 256 from rfl, Int.mul_add_ediv_right _ _ (by decide), Int.ediv_eq_zero_of_lt hb.1 hb.2, Int.add_zero,
    show z * 256 + a = (z * 64) * 4 + a by rw [Int.mul_assoc]; rfl, Int.mul_add_ediv_right _ _ (by decide), al_add]; rfl
theorem sxB {a b c : Int} (hb : 0 ≤ b ∧ b < 256) (hc : 0 ≤ c ∧ c < 256) : al ((a * 65536 + b * 256 + c) / 4096) = al ((a * 256 + b) / 16) := by
  rw [show (4096 : Int) = ((256 * 16 : Nat) : Int) from rfl, dv, show (((256 : Nat) : Int)) = 256 from rfl, sx1 hb hc]; rfl
theorem sxC {a b c : Int} : al ((a * 65536 + b * 256 + c) / 64) = al ((b * 256 + c) / 64) := by
  rw [Int.add_assoc, show a * 65536 = (a * 16 * 64) * 64 by rw [Int.mul_assoc, Int.mul_assoc]; rfl, Int.mul_add_ediv_right _ _ (by decide), al_add]
theorem sxD {a b c : Int} : al (a * 65536 + b * 256 + c) = al (b * 256 + c) := by
  rw [Int.add_assoc, show a * 65536 = (a * 1024) * 64 by rw [Int.mul_assoc]; rfl, al_add]
theorem codedM_in (ns : List Int) : KBa.In ((codedM ns).map fun z : Nat => (z : Int)) := by
  intro n hn
  obtain ⟨z, hz, rfl⟩ := List.mem_map.1 hn
  refine ⟨Int.natCast_nonneg _, Int.ofNat_lt.2 ?_⟩
  unfold codedM at hz
  rw [code3_al, code3_al] at hz
  have h : ∀ k, al k < 256 := fun k => alphaS_small _
  simp only [List.mem_append, List.mem_cons, List.not_mem_nil, or_false] at hz
  rcases hz with (rfl | rfl | rfl | rfl) | (rfl | rfl | rfl | rfl) <;> exact h _
noncomputable def lastTwo (ns : List Int) (i : Nat) : Int := (if 2 ≤ i then ns.getD (i - 2) 0 else 0) * 256 + (if 1 ≤ i then ns.getD (i - 1) 0 else 0)
noncomputable def outs (ns : List Int) (i : Nat) : List Int := ((codedM ns).take (8 * i / 6)).map fun z : Nat => (z : Int)
noncomputable def more6 (lb : Nat) (lx : Int) : List Int := (if 6 ≤ lb then [((al (lx / (2 ^ (lb - 6) : Nat)) : Nat) : Int)] else []) ++ if 12 ≤ lb then [((al (lx / (2 ^ (lb - 12) : Nat)) : Nat) : Int)] else []
theorem more6_step {lb : Nat} {lx : Int} (h : 6 ≤ lb) (h2 : lb ≤ 12) : more6 lb lx = ((al (lx / (2 ^ (lb - 6) : Nat)) : Nat) : Int) :: more6 (lb - 6) lx := by
  unfold more6
  rw [if_pos h, if_neg (show ¬ 12 ≤ lb - 6 by lia), show lb - 6 - 6 = lb - 12 from rfl, List.append_nil, List.singleton_append]
  by_cases h3 : 12 ≤ lb
  · rw [if_pos h3, if_pos (show 6 ≤ lb - 6 by lia)]
  · rw [if_neg h3, if_neg (show ¬ 6 ≤ lb - 6 by lia)]
theorem more6_12 (lx : Int) : more6 12 lx = [((al (lx / 64) : Nat) : Int), ((al lx : Nat) : Int)] := by
  rw [show al lx = al (lx / (2 ^ (12 - 12) : Nat)) by rw [show (((2 ^ (12 - 12) : Nat)) : Int) = 1 from rfl, Int.ediv_one]]; rfl
theorem more6_nil {lb : Nat} {lx : Int} (h : lb < 6) : more6 lb lx = [] := by unfold more6; rw [if_neg (by lia), if_neg (by lia)]; rfl
theorem list6 {ns : List Int} (h : ns.length = 6) : ∃ a b c d e f, ns = [a, b, c, d, e, f] :=
  match ns, h with
  | [a, b, c, d, e, f], _ => ⟨a, b, c, d, e, f, rfl⟩
theorem outs_succ {n0 n1 n2 n3 n4 n5 : Int} (b1 : 0 ≤ n1 ∧ n1 < 256) (b2 : 0 ≤ n2 ∧ n2 < 256) (b4 : 0 ≤ n4 ∧ n4 < 256) (b5 : 0 ≤ n5 ∧ n5 < 256) {i : Nat} (hi : i < 6) :
    outs [n0, n1, n2, n3, n4, n5] i ++ more6 (8 * i % 6 + 8) (lastTwo [n0, n1, n2, n3, n4, n5] (i + 1)) = outs [n0, n1, n2, n3, n4, n5] (i + 1) := by
  have e : codedM [n0, n1, n2, n3, n4, n5] = [al ((0 * 256 + n0) / 4), al ((n0 * 256 + n1) / 16), al ((n1 * 256 + n2) / 64), al (n1 * 256 + n2), al ((n2 * 256 + n3) / 4), al ((n3 * 256 + n4) / 16), al ((n4 * 256 + n5) / 64), al (n4 * 256 + n5)] := by
    rw [← sxA (a := n0) 0 b1 b2, ← sxB (a := n0) b1 b2, ← sxC (a := n0), ← sxD (a := n0), ← sxA (a := n3) n2 b4 b5, ← sxB (a := n3) b4 b5, ← sxC (a := n3) (b := n4), ← sxD (a := n3) (b := n4)]; rfl
  unfold outs
  rw [e]
  match i, hi with
  | 0, _ => rfl
  | 1, _ => rfl
  | 2, _ => exact (congrArg _ (more6_12 _)).trans rfl
  | 3, _ => rfl
  | 4, _ => rfl
  | 5, _ => exact (congrArg _ (more6_12 _)).trans rfl
noncomputable def fB2 (b : Array UInt8) (t : Tok) (D : Addr) (lc : Int) (lb : Nat) : SF := [("leftbits", .num lb), ("leftchar", .num lc), ("out", .val (.ref D)), ("newline", .val (.bool false)), ("bin_data", .val (.bytes b t))]
noncomputable def nB2 (D : Addr) (xs : List Int) : SL := [(D, oLst (xs.map .num))]
theorem lt_bounds {ns : List Int} (hns : ∀ j, 0 ≤ ns.getD j 0 ∧ ns.getD j 0 < 256) (i : Nat) : 0 ≤ lastTwo ns i ∧ lastTwo ns i < 65536 := by
  unfold lastTwo
  have a1 := hns (i - 2); have a2 := hns (i - 1)
  split <;> split <;> lia
theorem lt_step {ns : List Int} (hns : ∀ j, 0 ≤ ns.getD j 0 ∧ ns.getD j 0 < 256) (i : Nat) : (lastTwo ns i * 256 + ns.getD i 0) % 65536 = lastTwo ns (i + 1) := by
  have e : lastTwo ns (i + 1) = (if 1 ≤ i then ns.getD (i - 1) 0 else 0) * 256 + ns.getD i 0 := by
    rcases i with _ | j
    · rfl
    · unfold lastTwo; rw [if_pos (Nat.le_add_left 2 j), if_pos (Nat.le_add_left 1 (j + 1)), if_pos (Nat.le_add_left 1 j)]; rfl
  have hp : 0 ≤ (if 1 ≤ i then ns.getD (i - 1) 0 else 0) ∧ (if 1 ≤ i then ns.getD (i - 1) 0 else 0) < 256 := by
    split
    · exact hns _
    · decide
  have a3 := hns i
  rw [e]
  unfold lastTwo
  generalize (if 1 ≤ i then ns.getD (i - 1) 0 else 0) = p at *
  rw [Int.add_mul, Int.mul_assoc, Int.add_assoc, show (256 * 256 : Int) = 65536 from rfl, Int.mul_add_emod_self_right]
  exact Int.emod_eq_of_lt (by lia) (by lia)
theorem idx_al {lx : Int} {lb : Nat} (h : 6 ≤ lb) : Builtin.bitAnd (lx.fdiv (2 ^ ((lb : Int) - 6).toNat)) 63 = lx / (2 ^ (lb - 6) : Nat) % 64 := by
  rw [bitAnd_m6, show ((lb : Int) - 6).toNat = lb - 6 from Int.toNat_sub lb 6, Int.fdiv_eq_ediv_of_nonneg _ (Int.pow_nonneg (by decide)), Int.natCast_pow]; rfl
structure JB (ns : List Int) (i n : Nat) (a : Nat × List Int) : Prop where
  hn : n = a.1
  h12 : a.1 ≤ 12
  hm : a.1 % 6 = 8 * (i + 1) % 6
  hx : a.2 ++ more6 a.1 (lastTwo ns (i + 1)) = outs ns (i + 1)
theorem outs_len {ns : List Int} (i : Nat) : (outs ns i).length ≤ 8 := by
  unfold outs
  rw [List.length_map, List.length_take]
  exact Nat.min_le_right _ _
theorem outs_step {ns : List Int} (h6 : ns.length = 6) (hns : ∀ j, 0 ≤ ns.getD j 0 ∧ ns.getD j 0 < 256) {i : Nat} (hi : i < 6) : outs ns i ++ more6 (8 * i % 6 + 8) (lastTwo ns (i + 1)) = outs ns (i + 1) := by
  obtain ⟨n0, n1, n2, n3, n4, n5, rfl⟩ := list6 h6
  exact outs_succ (hns 1) (hns 2) (hns 4) (hns 5) hi
inductive B64R (ns : List Int) (h : Heap) (v : Value) (h' : Heap) : Prop
  | mk (b : Array UInt8) (t : Tok) (e : v = .bytes b t) (hb : KBw.bInts b = (codedM ns).map fun z : Nat => (z : Int))
set_option maxRecDepth 100000 in
set_option maxHeartbeats 4000000 in
theorem t_b2a (w : World) : PySem.Challenge.rw_ik0097_01 = PySem.Challenge.rw_ik0097_01 → Kx = Kx → ∀ (b : Array UInt8) (t : Tok) (ns : List Int), KBw.bInts b = ns → Octs ns →
    PurK w 84 [.bytes b t] [("newline", .bool false)] 5 200 (fun h => True) (B64R ns) := by
  k_fill
  intro _ _ b t ns hb hoc
  have hns : ∀ j, 0 ≤ ns.getD j 0 ∧ ns.getD j 0 < 256 := fun j => by
    rw [List.getD_eq_getElem?_getD]
    cases e : ns[j]? with
    | none => exact ⟨Int.le_refl _, by decide⟩
    | some c => exact hoc.2 c (List.mem_of_getElem? e)
  (k_dflt (refine' pur_S (by first | decide | lia) ?k6 ?k7 ?k9 ?kB ?hf0 ?_ ?c2 ?c3 ?c4 ?c5; (case k6 => k_is); (case k7 => k_is); (case k9 => (intro _ Xb; first | exact BindsTo.of_eq rfl | exact binds_K (by k_in) rfl (by k_is) rfl rfl rfl)); (case c5 => decide); (case kB => exact locs rfl); (case c2 => exact rfl); (case c3 => exact rfl); (case c4 => exact rfl)); k_whole)
  case hf0 =>
    refine (?_ : AllF _ [("newline", .val (.bool false)), ("data", .val (.bytes b t))])
    exact ⟨⟨_, rfl, rfl⟩, ⟨_, rfl, rfl⟩, trivial⟩
  intro C hD hU _ Q hQ
  refine g_set (.pur (fa := 69) (.v ?_) (by kernel_rfl) (by kernel_rfl))
  refine AllIs.one fun v e => ?_
  obtain rfl : v = .bytes b t := e
  refine ⟨_, _, _, _, t_buffer w rfl rfl b t, by lia, by lia, fun _ _ => trivial, fun h v h' _ hr => ⟨.val (.bytes b t), [], hr.1, .nil, ?_⟩⟩
  refine g_set (.pur (fa := 76) (.v ?_) (by kernel_rfl) (by kernel_rfl))
  refine AllIs.one fun v e => ?_
  obtain rfl : v = .bool false := e
  refine ⟨_, _, _, _, t_truth w rfl rfl, by lia, by lia, fun _ _ => trivial, fun h v h' _ hr => ⟨.val (.bool false), [], hr.1, .nil, ?_⟩⟩
  refine g_set (.list (.nil fun D => ?_))
  refine g_assign ?_
  refine g_assign ?_
  refine g_to (fB2 b t D (lastTwo ns 0) 0) (nB2 D (outs ns 0)) .rfl ?_ (by kernel_rfl)
  refine g_forB (α := Unit) ev hb (fun _ _ => True) (fun i _ => fB2 b t D (lastTwo ns i) (8 * i % 6)) (fun i _ => nB2 D (outs ns i)) () trivial (fun i _ c own hc _ Q2 q2 => ?_) (fun _ _ => ?_)
  · have hi : i < 6 := by rw [← hoc.1]; exact (List.getElem?_eq_some_iff.mp hc).1
    obtain rfl : c = ns.getD i 0 := by rw [List.getD_eq_getElem?_getD, hc]; rfl
    have hl := lt_bounds hns i
    refine g_assign ?_ rfl ⟨⟨by decide, by have := intBits_le (a := lastTwo ns i) (k := 16) (by lia); lia⟩, trivial⟩
    rw [or_shift hl.1 (hns i), bitAnd_m16, lt_step hns]
    refine g_assign ?_
    have hst := outs_step hoc.1 hns hi
    have hol := outs_len (ns := ns) (i + 1)
    have hl := lt_bounds hns (i + 1)
    refine g_to (("b", .num (ns.getD i 0)) :: fB2 b t D (lastTwo ns (i + 1)) (8 * i % 6 + 8)) (nB2 D (outs ns i)) .rfl ?_ (by kernel_rfl)
    refine g_while (α := Nat × List Int) (JB ns i) (fun a => ("b", .num (ns.getD i 0)) :: fB2 b t D (lastTwo ns (i + 1)) a.1) (fun a => nB2 D a.2) _ (8 * i % 6 + 8, outs ns i) ⟨rfl, by lia, by lia, hst⟩ fun lb a hJ => ⟨_, tst, fun hp Q3 q3 => ?_, fun hp => ?_⟩
    · obtain ⟨n, xs⟩ := a
      obtain ⟨rfl, h12, hm, hx⟩ := hJ
      dsimp only at hp h12 hm hx q3 ⊢
      have h6 : 6 ≤ lb := by lia
      have hid := idx_al (lx := lastTwo ns (i + 1)) h6
      obtain ⟨B, u, hB, hB2⟩ := b64_is w.params
      rw [more6_step h6 h12] at hx
      have hxl : xs.length ≤ 8 := by rw [← hx, List.length_append] at hol; lia
      refine g_append (as0 := xs.map .num) rfl (.head _) ((ev_subB hB hB2 (ev (hp := by exact ⟨by lia, trivial⟩)) ⟨?_, ?_⟩ (by decide +kernel)).x ⟨0, xs.map .num, rfl, ?_, ?_⟩)
      · rw [hid]; exact Int.emod_nonneg _ (by decide)
      · rw [hid, alphaI_len]; exact Int.emod_lt_of_pos _ (by decide)
      · rw [List.length_map]; unfold big; lia
      rw [hid, alphaI_get]
      refine g_assign ?_
      exact g_wnext q3 (lb - 6) (lb - 6, xs ++ [((al (lastTwo ns (i + 1) / (2 ^ (lb - 6) : Nat)) : Nat) : Int)]) (.i [0] (by unfold nB2; rw [List.map_append]; kernel_rfl)) (by lia) ⟨rfl, by lia, by dsimp only; lia, by rw [List.append_assoc]; exact hx⟩ (by rw [show (lb : Int) - 6 = ((lb - 6 : Nat) : Int) by lia]; kernel_rfl)
    · obtain ⟨n, xs⟩ := a
      obtain ⟨rfl, h12, hm, hx⟩ := hJ
      dsimp only at hp h12 hm hx ⊢
      have h6 : lb < 6 := by lia
      rw [more6_nil h6, List.append_nil] at hx
      exact g_lnext q2 () (.i [0] (by rw [hx]; kernel_rfl)) trivial (by rw [show lb = 8 * (i + 1) % 6 by lia]; kernel_rfl)
  · have hout6 : outs ns 6 = (codedM ns).map fun z : Nat => (z : Int) := rfl
    rw [hoc.1, hout6]
    refine g_if (p := (((8 * 6 % 6 : Nat) : Int) = 2)) (fun h => absurd h (by decide)) (fun _ => ?_)
    refine g_if (p := (((8 * 6 % 6 : Nat) : Int) = 4)) (fun h => absurd h (by decide)) (fun _ => g_seq (g_seq ?_))
    refine g_if (p := false = true) (fun h => nomatch h) (fun _ => g_seq ?_)
    refine g_retX (.bytesOf ev (.own (.head _)) (codedM_in ns) (by rw [List.length_map]; exact Nat.le_of_ble_eq_true rfl) fun t' v h t hv S => ?_)
    exact (hQ _ _ _ _ _ _ S ⟨_, t', hv, KBa.ints_make (codedM_in ns)⟩).1
set_option maxRecDepth 100000 in
set_option maxHeartbeats 4000000 in
theorem t_b64 (w : World) : PySem.Challenge.rw_ik0097_01 = PySem.Challenge.rw_ik0097_01 → Kx = Kx → ∀ (b : Array UInt8) (t : Tok) (ns : List Int), KBw.bInts b = ns → Octs ns →
    Pur w 92 [.bytes b t] 7 300 (fun h => True) (B64R ns) := by
  k_fill
  intro _ _ b t ns hb hoc
  (k_dflt (refine' pur_S (by first | decide | lia) ?k6 ?k7 ?k9 ?kB ?hf0 ?_ ?c2 ?c3 ?c4 ?c5; (case k6 => k_is); (case k7 => k_is); (case k9 => (intro _ Xb; first | exact BindsTo.of_eq rfl | exact binds_K (by k_in) rfl (by k_is) rfl rfl rfl)); (case c5 => decide); (case kB => exact locs rfl); (case c2 => exact rfl); (case c3 => exact rfl); (case c4 => exact rfl)); k_whole)
  case hf0 =>
    refine (?_ : AllF _ [("altchars", .val .none), ("s", .val (.bytes b t))])
    exact ⟨⟨_, rfl, rfl⟩, ⟨_, rfl, rfl⟩, trivial⟩
  intro C hD hU _ Q hQ
  refine g_doc ?_
  refine g_set (.purKw (fa := 84) ((ev (a := .val (.bytes b t))).x fun v e => ?_) (by kernel_rfl) (by kernel_rfl))
  obtain rfl : v = .bytes b t := e
  refine ⟨_, _, _, _, t_b2a w rfl rfl b t ns hb hoc, by lia, by lia, fun _ _ => trivial, fun h v h' _ hr => ?_⟩
  obtain ⟨b', t', rfl, hb'⟩ := hr
  refine ⟨.val (.bytes b' t'), [], rfl, .nil, ?_⟩
  refine g_ifT (tst_isNot (b := true) ev rfl) (fun h => nomatch h) (fun _ => g_seq ?_)
  exact g_ret (a := .val (.bytes b' t')) fun v h t hv S => (hQ _ _ _ _ _ _ S ⟨b', t', hv, hb'⟩).1
end
section
open PySem PySem.W PySem.Calls PySem.Spec PyProof PyProof.Rows
noncomputable def fJ (f g : Str) (r p : Addr) (st : JSt) : SF := [("j", .num st.2.2.2.2), ("i", .num st.2.2.2.1), ("both", sx st.2.2.1), ("pieces", .val (.ref p)), ("blocks", .val (.ref r)), ("second", .txt g), ("first", .txt f)]
noncomputable def nJ (p : Addr) (xs : List (List Nat)) (x : List Nat) : SL := [(p, oLst (xs.map sx ++ [sx x]))]
noncomputable def fJ3 (f g : Str) (r p : Addr) (st : JSt) (X Y Z : Nat) : SF := ("size", .num Z) :: ("y", .num Y) :: ("x", .num X) :: fJ f g r p st
theorem sx_slice (x : Str) {i j : Nat} (h : i ≤ j) : Txt.slice x (some (i : Int)) (some (j : Int)) = ⟨((x.cps.toList.drop i).take (j - i)).toArray⟩ := slice_ij x i j h
theorem nJ_app (p : Addr) (xs : List (List Nat)) (x : List Nat) : [(p, oLst ((xs.map sx ++ [sx x]) ++ [sx []]))] = nJ p (xs ++ [x]) [] := by unfold nJ; rw [List.map_append]; rfl
theorem both_small {s a b c X Y Z I J : Nat} (h : X + Z ≤ 8 ∧ Y + Z ≤ 8) (hs : s ≤ I + J) (hi : I ≤ X) (hj : J ≤ Y) (ha : a ≤ X - I) (hb : b ≤ Y - J) (hc : c ≤ Z) : s + a + b + c ≤ big := by
  have : s + a + b + c ≤ 16 := by lia
  exact Nat.le_trans this (by decide)
inductive JoinR (st : JSt) (h : Heap) (v : Value) (h' : Heap) : Prop
  | mk (a p : Addr) (pv : List Value) (t : Tok) (k : Nat) (e : v = .ref a) (hn : NewIn h h' [(a, { cls := .type "tuple", data := .seq #[.ref p, .str ⟨st.2.2.1.toArray⟩ t] }), (p, W.listOf pv.toArray k)]) (hS : StrsOf pv (st.1 ++ [st.2.1]))
set_option maxRecDepth 100000 in
set_option maxHeartbeats 800000 in
theorem t_joined (w : World) : PySem.Challenge.rw_ik0097_01 = PySem.Challenge.rw_ik0097_01 → Kx = Kx → ∀ (f g : Str) (t1 t2 : Tok) (r : Addr) (vs : List Value) (bl : List (Nat × Nat × Nat)), f.length ≤ 8 → g.length ≤ 8 → okB 0 0 bl → bl.length ≤ 9 →
    Pur w 350 [.str f t1, .str g t2, .ref r] 3 30 (fun h => h.IsList r vs.toArray ∧ TupsAt h vs bl) (JoinR (joinM f.cps.toList g.cps.toList bl)) := by
  k_fill
  intro _ _ f g t1 t2 r vs bl hf hg hb hlen
  (k_dflt (refine' pur_S (by first | decide | lia) ?k6 ?k7 ?k9 ?kB ?hf0 ?_ ?c2 ?c3 ?c4 ?c5; (case k6 => k_is); (case k7 => k_is); (case k9 => (intro _ Xb; first | exact BindsTo.of_eq rfl | exact binds_K (by k_in) rfl (by k_is) rfl rfl rfl)); (case c5 => decide); (case kB => exact locs rfl); (case c2 => exact rfl); (case c3 => exact rfl); (case c4 => exact rfl)); k_whole)
  case hf0 =>
    refine (?_ : AllF _ [("blocks", .val (.ref r)), ("second", .txt g), ("first", .txt f)])
    exact ⟨⟨_, rfl, rfl⟩, ⟨_, rfl, Nat.le_trans hg (by decide), _, rfl⟩, ⟨_, rfl, Nat.le_trans hf (by decide), _, rfl⟩, trivial⟩
  intro C _ _ hP Q hQ
  obtain ⟨hr, hT⟩ := hP
  refine g_swap (.cons (.list (.v (hp := by exact ⟨by decide, trivial⟩) fun p => .v (hp := by exact ⟨by decide, trivial⟩) ?_)))
  refine g_unpack (.tuple (.v fun D0 => ⟨D0, _, _, rfl, .head _, fun _ h => h, rfl, ?_⟩))
  rw [empty_str]
  refine g_to (fJ f g r p ([], [], [], 0, 0)) (nJ p [] []) (.i [1] (by kernel_rfl)) ?_ (by kernel_rfl)
  refine g_forT (.v ⟨r, rfl, ?_⟩)
  refine overT_base (α := Unit) hr (tups_as hT) (fun _ _ => True) (fun i _ => fJ f g r p (joinM f.cps.toList g.cps.toList (bl.take i))) (fun i _ => nJ p (joinM f.cps.toList g.cps.toList (bl.take i)).1 (joinM f.cps.toList g.cps.toList (bl.take i)).2.1) () trivial (fun i _ c own s9 hc _ Q2 q2 => ?_) (fun _ _ => ?_)
  · rw [List.getElem?_map] at hc
    obtain ⟨v, hv, rfl⟩ := Option.map_eq_some_iff.mp hc
    obtain ⟨a, b, x1, y1, z1, hbi, rfl, ha⟩ := hT.get hv
    have hil : i < bl.length := (List.getElem?_eq_some_iff.mp hbi).1
    obtain ⟨o1, o2, o3, o4⟩ := joinM_ok f.cps.toList g.cps.toList bl hb i (by lia)
    rw [List.drop_eq_getElem_cons hil, (List.getElem?_eq_some_iff.mp hbi).2] at o1
    have hstep := joinM_succ (f := f.cps.toList) (g := g.cps.toList) hbi
    obtain ⟨oa, ob, oc⟩ := o1
    have od := okB_le oc
    refine gt_base ha oTup_tup3 ?_
    generalize joinM f.cps.toList g.cps.toList (bl.take i) = st at *
    obtain ⟨X, Y, Z⟩ := b
    obtain ⟨S1, S2, S3, I, J⟩ := st
    dsimp only at oa ob oc od o2 o3 o4 hstep ⊢
    have lf := length_toList f
    have lg := length_toList g
    have ls := fun (x : List Nat) (i k : Nat) => show ((x.drop i).take k).length ≤ k by rw [List.length_take]; exact Nat.min_le_left _ _
    refine g_to (fJ3 f g r p (S1, S2, S3, I, J) X Y Z) (nJ p S1 S2) .rfl ?_ (by kernel_rfl)
    refine g_then (α := List (List Nat) × List Nat) (fun d => d = (if X > I ∨ Y > J then (S1 ++ [S2], []) else (S1, S2))) (fun _ => fJ3 f g r p (S1, S2, S3, I, J) X Y Z) (fun d => nJ p d.1 d.2) (fun d hd => ?_) fun after => ?_
    · have hd2 : d.2.length ≤ 8 := by rw [hd]; split <;> first | exact Nat.zero_le _ | (dsimp only; lia)
      refine g_setLast (as := d.1.map sx) (a := sx d.2) (j := 0) rfl (by kernel_rfl) (ev_adds (ev_last rfl (.head _)) (ev) ?_) ?_
      · rw [slice_add, mk_len, mk_len]
        have := ls f.cps.toList X Z
        unfold big
        lia
      rw [slice_add, str_app]
      refine g_to (fJ3 f g r p (S1, S2, S3, I, J) X Y Z) (nJ p d.1 (d.2 ++ (f.cps.toList.drop X).take Z)) (.i [0] (by kernel_rfl)) ?_ rfl
      refine g_assign ?_ rfl (by
        simp only [slice_add, sx_slice f oa, sx_slice g ob, str_app, mk_len, List.length_append]
        have h1 := ls f.cps.toList I (X - I)
        have q := both_small od o3 oa ob h1 (ls g.cps.toList J (Y - J)) (ls f.cps.toList X Z)
        exact ⟨q, Nat.le_trans (Nat.le_add_right _ _) q, Nat.le_trans (Nat.le_trans (Nat.le_add_right _ _) (Nat.le_add_right _ _)) q, trivial⟩)
      rw [slice_add, sx_slice f oa, sx_slice g ob, str_app, str_app, str_app]
      refine g_swap (.v ?_)
      exact g_nnext q2 () (.i [0] (by rw [hstep, hd]; kernel_rfl)) trivial (by rw [hstep]; kernel_rfl)
    · refine g_if (fun h => ?_) (fun h => ?_)
      · refine g_append (as0 := S1.map sx ++ [sx S2]) rfl (.head _) ((ev (hp := by exact ⟨by decide, trivial⟩)).x ⟨0, _, rfl, ?_, ?_⟩)
        · rw [List.length_append, List.length_map]; simp; unfold big; lia
        exact g_seq (g_to _ _ (.i [0] (by rw [← nJ_app]; kernel_rfl)) (after (S1 ++ [S2], []) (by rw [if_pos (by lia)])) (by kernel_rfl))
      · exact g_seq (after (S1, S2) (by rw [if_neg (by lia)]))
  · rw [List.length_map, hT.length, List.take_length]
    refine g_retX (.tuple (.v fun D => fun v h t hv S => ?_))
    cases hv
    obtain ⟨o, h1, ho, _, h3⟩ := S.at' (.head _)
    obtain ⟨o', h1', ho', _, h3'⟩ := S.at' (.tail _ (.head _))
    obtain ⟨us, hu, rfl⟩ := ho
    obtain ⟨pv, k, hpv, rfl⟩ := ho'
    refine (hQ _ _ _ _ _ _ S ?_).1
    refine AllIs.two (P := fun us => C.s.heap.get? D = none → h.get? D = some { cls := .type "tuple", data := .seq us.toArray 0 } → _) (fun u v hu hv h3 h1 => ?_) us hu h3 h1
    cases hu
    obtain ⟨_, t, rfl⟩ := hv
    refine ⟨D, p, pv, t, k, rfl, fun q hq => ?_, strs_of (by rw [List.map_append]; exact hpv)⟩
    rcases List.mem_cons.mp hq with rfl | hq
    · exact ⟨h3, h1⟩
    · cases List.mem_singleton.mp hq
      exact ⟨h3', h1'⟩
end
section
open PySem PySem.W PySem.Calls PyProof PyProof.Rows
theorem more_of' {f g : Str} {i j k : Nat} (hk : k ≤ lcp (f.cps.toList.drop i) (g.cps.toList.drop j)) (h : Txt.slice f (some ((i : Int) + k)) (some ((i : Int) + k + 1)) = Txt.slice g (some ((j : Int) + k)) (some ((j : Int) + k + 1)) ∧ ¬ Txt.slice g (some ((j : Int) + k)) (some ((j : Int) + k + 1)) = ("" : Str)) : k < lcp (f.cps.toList.drop i) (g.cps.toList.drop j) :=
  more_of hk (beq_iff_eq.mpr h.1) (bne_iff_ne.mpr h.2)
theorem done_of' {f g : Str} {i j k : Nat} (hk : k ≤ lcp (f.cps.toList.drop i) (g.cps.toList.drop j)) (h : ¬ (Txt.slice f (some ((i : Int) + k)) (some ((i : Int) + k + 1)) = Txt.slice g (some ((j : Int) + k)) (some ((j : Int) + k + 1)) ∧ ¬ Txt.slice g (some ((j : Int) + k)) (some ((j : Int) + k + 1)) = ("" : Str))) : k = lcp (f.cps.toList.drop i) (g.cps.toList.drop j) :=
  done_of hk fun hh => h ⟨beq_iff_eq.mp hh.1, bne_iff_ne.mp hh.2⟩
inductive LngR (b : Nat × Nat × Nat) (h : Heap) (v : Value) (h' : Heap) : Prop
  | mk (r : Addr) (x y z : Tok) (e : v = .ref r) (hn : h.get? r = none) (ho : h'.get? r = some (tup3 b x y z))
set_option maxRecDepth 100000 in
set_option maxHeartbeats 800000 in
theorem t_longest (w : World) (f g : Str) (t1 t2 : Tok) : PySem.Challenge.rw_ik0097_01 = PySem.Challenge.rw_ik0097_01 → Kx = Kx → f.length ≤ 8 → g.length ≤ 8 →
    Pur w 336 [.str f t1, .str g t2] 3 30 (fun _ => True) (LngR (longest f.cps.toList g.cps.toList)) := by
  k_fill
  intro _ _ hf hg
  (k_dflt (refine' pur_S (by first | decide | lia) ?k6 ?k7 ?k9 ?kB ?hf0 ?_ ?c2 ?c3 ?c4 ?c5; (case k6 => k_is); (case k7 => k_is); (case k9 => (intro _ Xb; first | exact BindsTo.of_eq rfl | exact binds_K (by k_in) rfl (by k_is) rfl rfl rfl)); (case c5 => decide); (case kB => exact locs rfl); (case c2 => exact rfl); (case c3 => exact rfl); (case c4 => exact rfl)); k_whole)
  case hf0 =>
    refine (?_ : AllF _ [("first", .txt f), ("second", .txt g)])
    exact ⟨⟨_, rfl, Nat.le_trans hf (by decide), _, rfl⟩, ⟨_, rfl, Nat.le_trans hg (by decide), _, rfl⟩, trivial⟩
  intro C _ _ _ Q hQ
  refine g_set (.tuple (.v fun D => ?_))
  refine g_to [("best", .val (.ref D)), ("first", .txt f), ("second", .txt g)] [(D, o3 (rows f.cps.toList g.cps.toList 0))] (.i [0] (by kernel_rfl)) ?_ (by kernel_rfl)
  refine g_for1 (α := Addr) (fun _ _ => True) (fun _ D => [("best", .val (.ref D)), ("first", .txt f), ("second", .txt g)]) (fun i D => [(D, o3 (rows f.cps.toList g.cps.toList i))]) D trivial ?_ ?_
  · intro i D own hi _ Q1 q1
    refine g_to [("i", .num i), ("best", .val (.ref D)), ("first", .txt f), ("second", .txt g)] [(D, o3 (row f.cps.toList g.cps.toList i 0 (rows f.cps.toList g.cps.toList i)))] (.i [0] (by kernel_rfl)) ?_ (by kernel_rfl)
    refine g_for1 (α := Addr) (fun _ _ => True) (fun _ D => [("i", .num i), ("best", .val (.ref D)), ("first", .txt f), ("second", .txt g)]) (fun j D => [(D, o3 (row f.cps.toList g.cps.toList i j (rows f.cps.toList g.cps.toList i)))]) D trivial ?_ ?_
    · intro j D own2 hj _ Q2 q2
      refine g_assign ?_
      refine g_to [("size", .num ((0 : Nat) : Int)), ("j", .num j), ("i", .num i), ("best", .val (.ref D)), ("first", .txt f), ("second", .txt g)] [(D, o3 (row f.cps.toList g.cps.toList i j (rows f.cps.toList g.cps.toList i)))] (.i [0] (by kernel_rfl)) ?_ (by kernel_rfl)
      refine g_while (α := Nat) (fun n k => n = lcp (f.cps.toList.drop i) (g.cps.toList.drop j) - k ∧ k ≤ lcp (f.cps.toList.drop i) (g.cps.toList.drop j)) (fun k => [("size", .num (k : Int)), ("j", .num j), ("i", .num i), ("best", .val (.ref D)), ("first", .txt f), ("second", .txt g)]) (fun _ => [(D, o3 (row f.cps.toList g.cps.toList i j (rows f.cps.toList g.cps.toList i)))]) _ 0 ⟨rfl, Nat.zero_le _⟩ ?_
      rintro n k ⟨rfl, hk⟩
      refine ⟨_, tst (hp := by exact ⟨by decide, trivial⟩), fun hp Q3 q3 => ?_, fun hp => ?_⟩
      · have := more_of' hk hp
        refine g_assign ?_
        exact g_wnext q3 (lcp (f.cps.toList.drop i) (g.cps.toList.drop j) - (k + 1)) (k + 1) (.i [0] (by kernel_rfl)) (by lia) ⟨rfl, this⟩ (by kernel_rfl)
      · obtain rfl := done_of' hk hp
        have hrow := row_succ f.cps.toList g.cps.toList i j (rows f.cps.toList g.cps.toList i)
        unfold better at hrow
        refine g_ifT (tst_gt ev (ev_tup_item ev (.head _) (by decide) (by decide) (by rfl) (by rfl))) (fun hc => ?_) (fun hc => ?_)
        · rw [if_pos (by lia)] at hrow
          refine g_set (.tuple (.v fun D' => ?_))
          exact g_seq (g_lnext q2 D' (.i [0] (by rw [hrow]; kernel_rfl)) trivial (by kernel_rfl))
        · rw [if_neg (by lia)] at hrow
          exact g_seq (g_lnext q2 D (.i [0] (by rw [hrow]; kernel_rfl)) trivial (by kernel_rfl))
    · intro D _
      rw [← length_toList]
      exact g_lnext q1 D (.i [0] (by rw [rows_succ]; kernel_rfl)) trivial (by kernel_rfl)
  · intro D _
    refine g_ret fun v h t hv S => ?_
    cases hv
    obtain ⟨o, h1, h2, _, h3⟩ := S.at' (.head _)
    obtain ⟨x, y, z, rfl⟩ := o3_is h2
    exact (hQ _ _ _ _ _ _ S ⟨D, x, y, z, rfl, h3, by rw [h1]; unfold longest; rw [length_toList]⟩).1
end
section
open PySem PySem.W PySem.Calls PySem.Spec PyProof PyProof.Rows
noncomputable def fBl (f g : Str) (i j : Nat) : SF := [("j", .num j), ("i", .num i), ("second", .txt g), ("first", .txt f)]
noncomputable def fBx (f g : Str) (i j : Nat) (X Y Z : Nat) : SF := ("size", .num Z) :: ("y", .num Y) :: ("x", .num X) :: fBl f g i j
theorem TupsIn.tail {r : Addr} {as : Array Value} {k : Nat} {tl : List (Addr × Obj)} : ∀ {vs : List Value} {bl : List (Nat × Nat × Nat)}, TupsIn ((r, W.listOf as k) :: tl) vs bl → TupsIn tl vs bl
  | [], [], _ => trivial
  | _ :: _, _ :: _, ⟨⟨a, x, y, z, e, e'⟩, T⟩ => ⟨⟨a, x, y, z, e, by
    rcases List.mem_cons.mp e' with h | h
    · exact absurd (Value.type.inj (congrArg (fun p => p.2.cls) h)) (by decide)
    · exact h⟩, TupsIn.tail T⟩
  | [], _ :: _, T => T.elim
  | _ :: _, [], T => T.elim
theorem slice_add_from (x : Str) (i z : Nat) : Txt.slice x (some ((i : Int) + (z : Int))) none = ⟨(x.cps.toList.drop (i + z)).toArray⟩ := by
  rw [show ((i : Int) + (z : Int)) = ((i + z : Nat) : Int) by lia, slice_from]
inductive BlkR (bl : List (Nat × Nat × Nat)) (h : Heap) (v : Value) (h' : Heap) : Prop
  | mk (r : Addr) (vs : List Value) (tl : List (Addr × Obj)) (k : Nat) (e : v = .ref r) (hn : NewIn h h' ((r, W.listOf vs.toArray k) :: tl)) (hT : TupsIn tl vs bl)
set_option maxRecDepth 100000 in
set_option maxHeartbeats 800000 in
theorem t_blocks (w : World) : PySem.Challenge.rw_ik0097_01 = PySem.Challenge.rw_ik0097_01 → Kx = Kx → ∀ (n : Nat) (f g : Str) (i j : Nat) (t1 t2 t3 t4 : Tok), f.length < n → f.length ≤ 8 → g.length ≤ 8 → i + f.length ≤ 8 → j + g.length ≤ 8 →
    Pur w 343 [.str f t1, .str g t2, .int i t3, .int j t4] (n + 4) (4 * n + 40) (fun _ => True) (BlkR (blocksM n f.cps.toList g.cps.toList i j)) := by
  k_fill
  intro _ _ n
  induction n with
  | zero => intro f g i j t1 t2 t3 t4 h; exact absurd h (Nat.not_lt_zero _)
  | succ n ih =>
  intro f g i j t1 t2 t3 t4 hn hf hg hi hj
  have lf := length_toList f
  have lg := length_toList g
  have hfit := longest_fits f.cps.toList g.cps.toList
  unfold blocksM
  generalize hb : longest f.cps.toList g.cps.toList = b at *
  obtain ⟨X, Y, Z⟩ := b
  obtain ⟨hX, hY⟩ := hfit
  dsimp only at hX hY ⊢
  (k_dflt (refine' pur_S (by first | decide | lia) ?k6 ?k7 ?k9 ?kB ?hf0 ?_ ?c2 ?c3 ?c4 ?c5; (case k6 => k_is); (case k7 => k_is); (case k9 => (intro _ Xb; first | exact BindsTo.of_eq rfl | exact binds_K (by k_in) rfl (by k_is) rfl rfl rfl)); (case c5 => decide); (case kB => exact locs rfl); (case c2 => exact rfl); (case c3 => exact rfl); (case c4 => exact rfl)); k_whole)
  case hf0 =>
    refine (?_ : AllF _ (fBl f g i j))
    exact ⟨⟨_, rfl, _, rfl⟩, ⟨_, rfl, _, rfl⟩, ⟨_, rfl, Nat.le_trans hg (by decide), _, rfl⟩, ⟨_, rfl, Nat.le_trans hf (by decide), _, rfl⟩, trivial⟩
  intro C hD hU _ Q hQ
  have hrec : ∀ (f' g' : List Nat) (i' j' : Nat) (fr : SF) (n1 : SL) (R : SV → SL → Prop), f'.length < n → g'.length ≤ 8 → i' + f'.length ≤ 8 → j' + g'.length ≤ 8 →
      (∀ r vs tl, TupsIn tl vs (blocksM n f' g' i' j') → R (.val (.ref r)) (((r, oLst (vs.map .val)) :: oEqs tl) ++ n1)) → ∀ vs, AllIs [.txt ⟨f'.toArray⟩, .txt ⟨g'.toArray⟩, .num i', .num j'] vs → PurE C [] fr n1 343 vs R := by
    intro f' g' i' j' fr n1 R h1 h2 h3 h4 hR
    refine AllIs.four fun u v z y ⟨_, u1, e1⟩ ⟨_, u2, e2⟩ ⟨u3, e3⟩ ⟨u4, e4⟩ => ?_
    subst e1 e2 e3 e4
    refine ⟨_, _, _, _, ih ⟨f'.toArray⟩ ⟨g'.toArray⟩ i' j' _ _ _ _ (by rw [mk_len]; exact h1) (by rw [mk_len]; lia) (by rw [mk_len]; exact h2) (by rw [mk_len]; exact h3) (by rw [mk_len]; exact h4), by lia, by lia, fun _ _ => trivial, ?_⟩
    rintro h v h' _ ⟨r, vs, tl, k, rfl, hn, hT⟩
    obtain ⟨tl', hc, hm⟩ := hn.led
    exact ⟨.val (.ref r), (r, oLst (vs.map .val)) :: oEqs tl', rfl, ⟨fun p hp => by
      rcases List.mem_cons.mp hp with rfl | hp
      · obtain ⟨q1, o, q2, q3⟩ := hc.at' _ (.head _)
        exact ⟨q1, o, q2, oLst_eq q3⟩
      · exact hc.at' _ (.tail _ hp), hc.nd⟩, hR r vs tl' (hT.more hm).tail⟩
  refine g_part (.pur (fa := 336) (.v ?_) (by kernel_rfl) (by kernel_rfl))
  refine AllIs.two fun u v ⟨_, u1, e1⟩ ⟨_, u2, e2⟩ => ?_
  subst e1 e2
  refine ⟨_, _, _, _, t_longest w f g _ _ rfl rfl hf hg, by lia, by lia, fun _ _ => trivial, ?_⟩
  rintro h v h' _ ⟨T, x1, y1, z1, rfl, hn1, ho1⟩
  refine ⟨.val (.ref T), _, rfl, .one (P := o3 (X, Y, Z)) hn1 ho1 (by rw [hb]; exact oTup_tup3), ?_⟩
  refine gt_tup (as := [.num X, .num Y, .num Z]) (.head _) (fun _ h => h) ?_
  refine g_to (fBx f g i j X Y Z) [(T, o3 (X, Y, Z))] .rfl ?_ (by kernel_rfl)
  refine g_if (fun hZ => ?_) (fun hZ => g_seq ?_)
  · have hZ : Z = 0 := by lia
    refine g_retX (.list (.nil fun D v h t hv S => ?_))
    cases hv
    obtain ⟨o, h1, ⟨us, k, hu, rfl⟩, _, h3⟩ := S.at' (.head _)
    refine (hQ _ _ _ _ _ _ S ⟨D, us, [], k, rfl, fun p hp => ?_, ?_⟩).1
    · rw [List.mem_singleton.mp hp]; exact ⟨h3, h1⟩
    · rw [if_pos hZ]
      cases us with
      | nil => trivial
      | cons _ _ => exact hu.elim
  have hZ : Z ≠ 0 := fun e => hZ (by rw [e]; rfl)
  refine g_set (.pur (fa := 343) (.v ?_) (by kernel_rfl) (by kernel_rfl))
  rw [slice_add_from, slice_add_from, show ((i : Int) + X + Z) = ((i + X + Z : Nat) : Int) by lia, show ((j : Int) + Y + Z) = ((j + Y + Z : Nat) : Int) by lia]
  refine hrec (f.cps.toList.drop (X + Z)) (g.cps.toList.drop (Y + Z)) (i + X + Z) (j + Y + Z) _ _ _ (by rw [List.length_drop]; lia) (by rw [List.length_drop]; lia) (by rw [List.length_drop]; lia) (by rw [List.length_drop]; lia) fun r2 vs2 tl2 ht2 => ?_
  refine g_retX (.addL (.addL (.pur (fa := 343) (.v ?_) (by kernel_rfl) (by kernel_rfl))))
  rw [slice_to, slice_to]
  refine hrec (f.cps.toList.take X) (g.cps.toList.take Y) i j _ _ _ (by rw [List.length_take]; lia) (by rw [List.length_take]; lia) (by rw [List.length_take]; lia) (by rw [List.length_take]; lia) fun r4 vs4 tl4 ht4 => ?_
  have e2 := ht2.length
  have e4 := ht4.length
  have b2 := blocksM_length n (List.drop (X + Z) f.cps.toList) (List.drop (Y + Z) g.cps.toList) (i + X + Z) (j + Y + Z)
  have b4 := blocksM_length n (List.take X f.cps.toList) (List.take Y g.cps.toList) i j
  rw [List.length_take] at b4
  rw [List.length_drop] at b2
  refine .list (.cons (.tuple (.v fun T1 => .nil fun D1 => ⟨r4, D1, vs4.map .val, _, rfl, rfl, ?_, .head _, ?_, fun D2 => (ev).x ⟨D2, r2, _, vs2.map .val, rfl, rfl, .head _, ?_, ?_, fun D4 => ?_⟩⟩)))
  · exact .tail _ (.tail _ (.head _))
  · rw [List.length_map]; simp; unfold big; lia
  · exact .tail _ (.tail _ (.tail _ (List.mem_append_right _ (.head _))))
  · rw [List.length_append, List.length_map, List.length_map]; simp; unfold big; lia
  intro v h t hv S
  cases hv
  obtain ⟨o4, g1, p4, _, g2⟩ := S.at' (.head _)
  obtain ⟨oT, g3, pT, _, g4⟩ := S.at' (a := T1) (P := oTup [.num ((i : Int) + X), .num ((j : Int) + Y), .num Z]) (.tail _ (.tail _ (.tail _ (.head _))))
  obtain ⟨k, rfl⟩ := oLst_vals (vs := vs4 ++ [.ref T1] ++ vs2) (by rw [List.map_append, List.map_append]; exact p4)
  obtain ⟨x3, y3, z3, rfl⟩ := o3_is (b := (i + X, j + Y, Z)) pT
  refine (hQ _ _ _ _ _ _ S ⟨D4, vs4 ++ [.ref T1] ++ vs2, (T1, tup3 (i + X, j + Y, Z) x3 y3 z3) :: (tl4 ++ tl2), k, rfl, fun p hp => ?_, ?_⟩).1
  · rcases List.mem_cons.mp hp with rfl | hp
    · exact ⟨g2, g1⟩
    rcases List.mem_cons.mp hp with rfl | hp
    · exact ⟨g4, g3⟩
    have hm : (p.1, oEq p.2) ∈ ((r4, oLst (vs4.map .val)) :: oEqs tl4) ++ (((r2, oLst (vs2.map .val)) :: oEqs tl2) ++ [(T, o3 (X, Y, Z))]) := by
      rcases List.mem_append.mp hp with hp | hp
      · exact List.mem_append_left _ (.tail _ (mem_oEqs hp))
      · exact List.mem_append_right _ (List.mem_append_left _ (.tail _ (mem_oEqs hp)))
    obtain ⟨o, q1, q2, _, q3⟩ := S.at' (.tail _ (.tail _ (.tail _ (.tail _ hm))))
    cases q2
    exact ⟨q3, q1⟩
  · rw [if_neg hZ]
    exact .append (.append (ht4.more fun p hp => .tail _ (List.mem_append_left _ hp)) ⟨⟨T1, x3, y3, z3, rfl, .head _⟩, trivial⟩) (ht2.more fun p hp => .tail _ (List.mem_append_right _ hp))
end
section
open PySem PySem.W PySem.Calls PySem.Spec PyProof PyProof.Rows
theorem str_beq (x : Str) (l : List Nat) : (x == (⟨l.toArray⟩ : Str)) = (x.cps.toList == l) := by
  by_cases h : x.cps.toList = l
  · rw [beq_iff_eq.mpr h, beq_iff_eq.mpr (str_ext h)]
  · rw [beq_eq_false_iff_ne.mpr h, beq_eq_false_iff_ne.mpr fun e => h (by rw [e])]
theorem sx_of : ∀ {ps : List (List Nat)} {vs : List Value}, StrsOf vs ps → (∀ p ∈ ps, p.length ≤ 16) → AllIs (ps.map sx) vs
  | [], [], _, _ => trivial
  | p :: _, _ :: _, h, hl => ⟨⟨by rw [mk_len]; exact Nat.le_trans (hl p (.head _)) (by decide), h.1⟩, sx_of h.2 fun q hq => hl q (.tail _ hq)⟩
  | _ :: _, [], h, _ => h.elim
  | [], _ :: _, h, _ => h.elim
theorem mid_of {a b : SV} {m : List SV} {vs : List Value} (h : AllIs ((a :: m) ++ [b]) vs) : AllIs m (slicePick vs.toArray (some 1) (some (-1)) none).toList := by
  obtain ⟨us, u, rfl, h1, _⟩ := h.unapp
  obtain _ | ⟨v, us⟩ := us
  · exact h1.elim
  · rw [slicePick_mid]; exact h1.2
theorem str_eq {l p : List Nat} : (⟨l.toArray⟩ : Str) = ⟨p.toArray⟩ ↔ l = p := ⟨fun h => by simpa using congrArg (fun x : Str => x.cps.toList) h, fun h => by rw [h]⟩
noncomputable def fS (r : Addr) (g : Str) (la pl : Nat) : SF := [("place", .num pl), ("last", .num la), ("text", .txt g), ("pieces", .val (.ref r))]
set_option maxRecDepth 100000 in
set_option maxHeartbeats 800000 in
theorem t_said (w : World) : PySem.Challenge.rw_ik0097_01 = PySem.Challenge.rw_ik0097_01 → Kx = Kx → ∀ (r : Addr) (ps : List (List Nat)) (g : Str) (t : Tok), g.length ≤ 16 → ps ≠ [] → ps.length ≤ 10 → (∀ p ∈ ps, p.length ≤ 16) →
    Pur w 362 [.ref r, .str g t] 3 30 (fun h => LstIn h r (ps.map sx)) (fun h v h' => v = .bool (saidM g.cps.toList ps)) := by
  k_fill
  intro _ _ r ps g t hg hne hlen hpl
  (k_dflt (refine' pur_S (by first | decide | lia) ?k6 ?k7 ?k9 ?kB ?hf0 ?_ ?c2 ?c3 ?c4 ?c5; (case k6 => k_is); (case k7 => k_is); (case k9 => (intro _ Xb; first | exact BindsTo.of_eq rfl | exact binds_K (by k_in) rfl (by k_is) rfl rfl rfl)); (case c5 => decide); (case kB => exact locs rfl); (case c2 => exact rfl); (case c3 => exact rfl); (case c4 => exact rfl)); k_whole)
  case hf0 =>
    refine (?_ : AllF _ [("text", .txt g), ("pieces", .val (.ref r))])
    exact ⟨⟨_, rfl, Nat.le_trans hg (by decide), _, rfl⟩, ⟨_, rfl, rfl⟩, trivial⟩
  intro C _ _ ⟨vs, hA, hr⟩ Q hQ
  obtain _ | ⟨p, ps⟩ := ps
  · exact absurd rfl hne
  refine g_ifT (tst_op (ev_lenL ev (.base hr hA) (by rw [List.length_map]; lia)) ev_int) (fun h1 => ?_) (fun h1 => g_seq ?_)
  · obtain _ | ⟨q, ps⟩ := ps
    · refine g_retX ((ev_eqT (x := g) (y := ⟨p.toArray⟩) ev (ev_itemL ev (.base hr hA) ev_int (by decide) (by decide) rfl)).x fun v h t hv S => (hQ _ _ _ _ _ _ S ?_).1)
      rw [hv, str_beq]; rfl
    · exact absurd h1 (by rw [List.length_map]; simp only [List.length_cons]; lia)
  rcases List.eq_nil_or_concat ps with rfl | ⟨pm, q, rfl⟩
  · exact absurd rfl h1
  rw [List.concat_eq_append] at *
  rw [List.map_cons, List.map_append, List.map_cons, List.map_nil, ← List.cons_append] at hA
  have hp := hpl p (.head _)
  have hq := hpl q (.tail _ (List.mem_append_right _ (.head _)))
  have lg := length_toList g
  refine g_set (Ev.x (ev_sub ev (ev_len (x := ⟨q.toArray⟩) (ev_lastL rfl (.base hr hA)) rfl rfl)) ?_)
  refine g_set ((ev_len (x := ⟨p.toArray⟩) (ev_itemL ev (.base hr hA) ev_int (by decide) (by decide) rfl) rfl rfl).x ?_)
  rw [mk_len q, mk_len p]
  refine g_ifT (TstW.t (tstW_or (tst_op (b := sx p) ev (ev_itemL ev (.base hr hA) ev_int (by decide) (by decide) rfl)) fun _ => tstW_or tst fun _ => tstW_or (tst_op (b := sx q) ev (ev_lastL rfl (.base hr hA))) fun _ => tstW_nilO)) (fun h2 => ?_) (fun h2 => g_seq ?_)
  · refine g_retX (ev_bool.x fun v h t hv S => (hQ _ _ _ _ _ _ S ?_).1)
    rw [hv, saidM_two, if_pos]
    rcases h2 with h2 | h2 | h2 | h2
    · exact .inl fun e => h2 (by rw [slice_to]; exact str_eq.mpr e)
    · exact .inr (.inl (by lia))
    · refine (Nat.lt_or_ge g.cps.toList.length (p.length + q.length)).elim (fun h => .inr (.inl h)) fun h => .inr (.inr fun e => h2 ?_)
      rw [show ((g.length : Int) - (q.length : Int)) = ((g.cps.toList.length - q.length : Nat) : Int) by lia, slice_from]; exact str_eq.mpr e
    · exact h2.elim
  have c1 : g.cps.toList.take p.length = p := Classical.byContradiction fun e => h2 (.inl fun e' => e (by rw [slice_to] at e'; exact str_eq.mp e'))
  have c2 : ¬ g.cps.toList.length < p.length + q.length := fun e => h2 (.inr (.inl (by lia)))
  rw [show ((g.length : Int) - (q.length : Int)) = ((g.cps.toList.length - q.length : Nat) : Int) by lia] at h2 ⊢
  have c3 : g.cps.toList.drop (g.cps.toList.length - q.length) = q := Classical.byContradiction fun e => h2 (.inr (.inr (.inl fun e' => e (by rw [slice_from] at e'; exact str_eq.mp e'))))
  have hM : saidM g.cps.toList (p :: (pm ++ [q])) = (saidLoop g.cps.toList (g.cps.toList.length - q.length) pm p.length).isSome := by
    rw [saidM_two, if_neg fun h => h.elim (fun h => h c1) fun h => h.elim c2 fun h => h c3]
  rw [hM] at hQ
  have hla : g.cps.toList.length - q.length ≤ g.length := by lia
  generalize g.cps.toList.length - q.length = la at *
  have hpl' : ∀ x ∈ pm, x.length ≤ 16 := fun x hx => hpl x (.tail _ (List.mem_append_left _ hx))
  refine g_forX (.sliceL rfl (.base hr hA) part_int part_neg (fun _ h => mid_of h) (by rw [List.length_append, List.length_cons, List.length_map]; simp at hlen ⊢; unfold big; lia) fun D => ⟨D, rfl, ?_⟩)
  refine Over.to (fS r g la p.length) [(D, oLst (pm.map sx))] (.i [0] (by kernel_rfl)) ?_ (by kernel_rfl)
  refine over_own (α := Nat) (as := pm.map sx) (fun _ h => h) (fun i pl => saidLoop g.cps.toList la (pm.take i) p.length = some pl) (fun _ pl => fS r g la pl) (fun _ _ => []) p.length rfl (fun i pl c own hc hJ Q1 q1 => ?_) (fun pl hJ => ?_)
  · rw [List.getElem?_map] at hc
    obtain ⟨x, hx, rfl⟩ := Option.map_eq_some_iff.mp hc
    have hstep : saidLoop g.cps.toList la (pm.take (i + 1)) p.length = saidLoop g.cps.toList la [x] pl := by
      rw [take_succ_of hx, saidLoop_append, hJ]; rfl
    refine g_set ((ev_find (y := ⟨x.toArray⟩) rfl ev ev ev).x ?_)
    rw [find4_is g _ pl la hla]
    dsimp only
    cases hf : findM g.cps.toList x pl la with
    | none =>
      refine g_if (fun _ => ?_) (fun h => (h (show (-1 : Int) < 0 by decide)).elim)
      refine g_retX (ev_bool.x fun v h t hv S => q1 _ _ (hQ _ _ _ _ _ _ S ?_).1)
      have hil := (List.getElem?_eq_some_iff.mp hx).1
      have e : pm = pm.take i ++ (x :: pm.drop (i + 1)) := by
        rw [← (List.getElem?_eq_some_iff.mp hx).2, ← List.drop_eq_getElem_cons hil, List.take_append_drop]
      rw [hv, e, saidLoop_append, hJ]
      simp [saidLoop, hf]
    | some k =>
      refine g_if (p := ((k : Nat) : Int) < 0) (fun h => absurd h (by lia)) (fun _ => g_seq ?_)
      refine g_assign ?_
      rw [mk_len x, ← Int.natCast_add]
      refine g_lnext q1 (k + x.length) (.i [] (by kernel_rfl)) ?_ (by kernel_rfl)
      rw [hstep]
      simp [saidLoop, hf]
  · rw [List.length_map, List.take_length] at hJ
    refine g_retX (ev_bool.x fun v h t hv S => (hQ _ _ _ _ _ _ S ?_).1)
    rw [hv, hJ]; rfl
end
section
open PySem PySem.W PySem.Calls PySem.Spec PyProof PyProof.Rows
set_option maxRecDepth 100000
noncomputable def es45 (P : Params) : Array DictEntry := match (k45 P).data with | .dict es _ => es | _ => #[]
noncomputable def keyOk (e : DictEntry) : Bool := match e.key with | .int k _ => e.hash == hashInt k | _ => false
theorem es45_ok (P : Params) : (es45 P).toList.all keyOk = true := by kernel_rfl
theorem es45_keys (P : Params) : ∀ e ∈ es45 P, ∃ k : Int, Value.isInt k e.key = true ∧ e.hash = hashInt k := by
  intro e he
  have h := List.all_eq_true.mp (es45_ok P) e (Array.mem_toList_iff.mpr he)
  unfold keyOk at h
  split at h
  · rename_i k t hk
    exact ⟨k, by rw [hk]; simp [Value.isInt], by simpa using h⟩
  · cases h
theorem map45 {w : World} {h : Heap} {prog : Program} (X : (Kx w.params).In h) : h.MapOf (intKind prog w) 45 (fun k => findBy Value.isInt (es45 w.params) k) :=
  ⟨k45 w.params, es45 w.params, 24, X _ _ (by kernel_rfl), ⟨rfl, rfl, rfl⟩, rfl, es45_keys w.params, fun k => rfl⟩
theorem tab43 (P : Params) : findBy Value.isInt (es45 P) 43 = some (.str "\\+" 382) := by kernel_rfl
theorem tabNo (P : Params) : ∀ c ∈ [83, 71, 86, 115, 50, 56, 104], findBy Value.isInt (es45 P) ((c : Nat) : Int) = none := by
  intro c hc
  simp only [List.mem_cons, List.not_mem_nil, or_false] at hc
  rcases hc with rfl | rfl | rfl | rfl | rfl | rfl | rfl <;> kernel_rfl
section
variable {prog : Program} {w : World} {A : Around} {E : Value → Shared → Prop} {s : Shared}
theorem tl_none {c : Nat} {Q : Builtin.Str.Mapped → Shared → Prop} (hh : A.handled = none) {f : Int → Option Value} (hm : s.heap.MapOf (intKind prog w) 45 f) (hv : f (c : Nat) = none)
    (h : ∀ h' tk, s.heap.StaysIn h' → Q .keep { s with heap := h', toks := tk }) : wpAny (model prog w) A (Builtin.Str.tableLookup (.ref 45) c) Q E s := by
  unfold Builtin.Str.tableLookup
  refine wpAny_bind (wpAny_attempt (wpAny_bind (wpAny_mkInt ?_)))
  refine wpAny_getItem_missing_of (knd := intKind prog w) (by simp [intKind, Value.isInt]) (by decide) hh hm hv fun h' e hx => ?_
  dsimp only
  obtain ⟨ob, t, he, hc, _⟩ := hx.there
  refine wpAny_bind (wpAny_isInstance (T := "KeyError") (b := true) ⟨ob, he, hc⟩ (by rw [isSubtype_type]; kernel_rfl) ?_)
  rw [if_pos rfl]
  exact wpAny_bind (wpAny_rule (wpAny_pure (h h' _ hx.keeps)))
theorem tl_text {c : Nat} {x : Str} {t : Tok} {Q : Builtin.Str.Mapped → Shared → Prop} {f : Int → Option Value} (hm : s.heap.MapOf (intKind prog w) 45 f) (hv : f (c : Nat) = some (.str x t))
    (h : ∀ tk, Q (.text x) { s with toks := tk }) : wpAny (model prog w) A (Builtin.Str.tableLookup (.ref 45) c) Q E s := by
  unfold Builtin.Str.tableLookup
  refine wpAny_bind (wpAny_attempt (wpAny_bind (wpAny_mkInt ?_)))
  refine wpAny_getItem_of (knd := intKind prog w) (by simp [intKind, Value.isInt]) hm hv ?_
  dsimp only
  obtain ⟨hp, g, d, tk, os⟩ := s
  wp_walk
  exact h _
set_option maxHeartbeats 4000000 in
theorem tr_none {c : Nat} {t : Tok} {Q : Value → Shared → Prop} (hh : A.handled = none) (h0 : c < 128) {f : Int → Option Value} (hm : s.heap.MapOf (intKind prog w) 45 f) (hv : f (c : Nat) = none)
    (h : ∀ t' h' tk, s.heap.StaysIn h' → Q (.str ⟨#[c]⟩ t') { s with heap := h', toks := tk }) : wpAny (model prog w) A (call (.builtin "str.translate") [.str ⟨#[c]⟩ t, .ref 45]) Q E s := by
  refine wpAny_call_entry PySem.F.slot_str_translate rfl PySem.F.entry_str_translate ?_ (PySem.F.args_str_translate_2 _ _)
  unfold Builtin.«str.translate»
  obtain ⟨hp, g, d, tk, os⟩ := s
  dsimp only at hm h
  have hT : ∀ (tk' : Nat) (Q' : Builtin.Str.Mapped → Shared → Prop) (E' : Value → Shared → Prop), (∀ h' tk, hp.StaysIn h' → Q' .keep ⟨h', g, d, tk, os⟩) → wpAny (model prog w) A.in1 (Builtin.Str.tableLookup (.ref 45) c) Q' E' ⟨hp, g, d, tk', os⟩ := fun tk' Q' E' hq => tl_none (s := ⟨hp, g, d, tk', os⟩) hh hm hv hq
  refine wpAny_bind (wpAny_of_eq (a := (Value.str ⟨#[c]⟩ t, (⟨#[c]⟩ : Str), Value.ref 45)) (by first | rfl | kernel_rfl) ?_)
  dsimp only
  generalize Builtin.Str.tableLookup (.ref 45) = TL at hT ⊢
  rw [if_neg (by show ¬ ((1 : Nat) == 0) = true; decide)]
  rw [List.forIn_toArray, List.forIn_cons]
  have ef : (#[c].all fun x => decide (x < 128)) = true := by simp [h0]
  dsimp only
  rw [if_neg (show ¬ Builtin.Str.tooLong 0 = true by decide), if_pos ef]
  dsimp only [List.lookup_nil]
  refine wpAny_bind (wpAny_bind (wpAny_bind (hT _ _ _ fun h' tk' hs => ?_)))
  dsimp only
  refine wpAny_bind (wpAny_pure ?_)
  dsimp only
  refine wpAny_pure (wpAny_pure ?_)
  dsimp only
  rw [if_neg (by decide)]
  exact wpAny_bind (wpAny_mkText (wpAny_pure ⟨_, rfl, h _ h' _ hs⟩))
set_option maxHeartbeats 4000000 in
theorem tr_text {c : Nat} {t : Tok} {x : Str} {tx : Tok} {Q : Value → Shared → Prop} (h0 : c < 128) {f : Int → Option Value} (hm : s.heap.MapOf (intKind prog w) 45 f) (hv : f (c : Nat) = some (.str x tx)) (hx : x.length = 2)
    (h : ∀ t' tk, Q (.str ⟨#[] ++ x.cps⟩ t') { s with toks := tk }) : wpAny (model prog w) A (call (.builtin "str.translate") [.str ⟨#[c]⟩ t, .ref 45]) Q E s := by
  refine wpAny_call_entry PySem.F.slot_str_translate rfl PySem.F.entry_str_translate ?_ (PySem.F.args_str_translate_2 _ _)
  unfold Builtin.«str.translate»
  obtain ⟨hp, g, d, tk, os⟩ := s
  dsimp only at hm h
  have hT : ∀ (tk' : Nat) (Q' : Builtin.Str.Mapped → Shared → Prop) (E' : Value → Shared → Prop), (∀ tk, Q' (.text x) ⟨hp, g, d, tk, os⟩) → wpAny (model prog w) A.in1 (Builtin.Str.tableLookup (.ref 45) c) Q' E' ⟨hp, g, d, tk', os⟩ := fun tk' Q' E' hq => tl_text (s := ⟨hp, g, d, tk', os⟩) hm hv hq
  refine wpAny_bind (wpAny_of_eq (a := (Value.str ⟨#[c]⟩ t, (⟨#[c]⟩ : Str), Value.ref 45)) (by first | rfl | kernel_rfl) ?_)
  dsimp only
  generalize Builtin.Str.tableLookup (.ref 45) = TL at hT ⊢
  rw [if_neg (by show ¬ ((1 : Nat) == 0) = true; decide)]
  rw [List.forIn_toArray, List.forIn_cons]
  have ef : (#[c].all fun x => decide (x < 128)) = true := by simp [h0]
  have el : (x.length == 1 && x.cps.all fun x => decide (x < 128)) = false := by rw [hx]; rfl
  dsimp only
  rw [if_neg (show ¬ Builtin.Str.tooLong 0 = true by decide), if_pos ef]
  dsimp only [List.lookup_nil]
  refine wpAny_bind (wpAny_bind (wpAny_bind (hT _ _ _ fun tk' => ?_)))
  dsimp only
  rw [if_neg (by rw [el]; decide)]
  refine wpAny_bind (wpAny_pure ?_)
  dsimp only
  refine wpAny_bind (wpAny_rule ?_)
  refine wpAny_bind (hT _ _ _ fun tk' => ?_)
  dsimp only
  refine wpAny_pure (wpAny_pure ?_)
  dsimp only
  rw [hx, if_neg (by decide)]
  have e1 : (List.foldl (fun acc (p : Str) => acc ++ p.cps) #[] [x].reverse) = #[] ++ x.cps := rfl
  rw [e1]
  have e2 : (#[] ++ x.cps).size = 2 := by rw [Array.size_append]; show 0 + x.length = 2; lia
  refine wpAny_bind (wpAny_mkStr (wpAny_pure ⟨_, rfl, h _ _⟩) ?_)
  show (#[] ++ x.cps).size ≤ sizeLine
  rw [e2, sizeLine_eq]; decide
end
end
section
open PySem PySem.W PySem.Calls PySem.Spec PyProof PyProof.Rows
set_option maxRecDepth 100000
local macro_rules | `(tactic| walk_at "call builtin:str.translate") => `(tactic| (refine stop_of ?_))
theorem gm_translate {M : Model} {A : Around} {E : Value → Shared → Prop} {s : Shared} {x : Str} {t : Tok} {pl : Sem Bool} {Q : Value × List Value → Shared → Prop} (h : Q (.builtin "str.translate", [.str x t]) s) : wpAny M A (getMethod (.str x t) "translate" pl) Q E s := by
  with_reducible exact GM.of (.str x t) (typeIs_str _ _ _) PySem.F.slot_str_translate PySem.F.type_str_translate GM.noRef h
local macro_rules | `(tactic| walk_at "getMethod str") => `(tactic| with_reducible refine gm_translate ?_)
abbrev okSigns : List Nat := [83, 71, 86, 115, 43, 50, 56, 104]
set_option maxRecDepth 100000 in
set_option maxHeartbeats 4000000 in
theorem t_escape (w : World) : PySem.Challenge.rw_ik0097_01 = PySem.Challenge.rw_ik0097_01 → Kx = Kx → ∀ (c : Nat) (t : Tok), c ∈ okSigns →
    Pur w 55 [.str ⟨#[c]⟩ t] 3 70 (fun _ => True) (fun h v h' => ∃ t', v = .str ⟨(escM c).toArray⟩ t') := by
  k_fill
  intro _ _ c t hc
  (k_dflt (refine' pur_intro (by lia) ?k6 ?k7 ?k9 ?kB ?_ ?c2 ?c3 ?c4 ?c5; (case k6 => k_is); (case k7 => k_is); (case k9 => (intro _ Xb; first | exact BindsTo.of_eq rfl | exact binds_K (by k_in) rfl (by k_is) rfl rfl rfl)); (case c5 => decide); (case kB => exact locs rfl); (case c2 => exact rfl); (case c3 => exact rfl); (case c4 => exact rfl)); k_whole; intro dp un gd env outer base mean mg mb s E L' h₁ tk hd hu hP F1 N2 B X T; (try dsimp only); (try k_fold))
  have F2 := fr_as F1 (m' := fun (y : Str) => List.lookup y [("pattern", Value.str ⟨#[c]⟩ t)]) (by intro y; kernel_rfl)
  clear F1
  simp only [lk_cons, lk_nil] at F2
  (repeat' (first | (k_unfold; (try dsimp only)) | walk1 | (dsimp only; walk1) | (leave1; (try dsimp only)) | fail "no step"))
  refine Stop.mk ?_
  (rename Fr s.heap L' _ _ => F3)
  have h128 : c < 128 := by
    simp only [okSigns, List.mem_cons, List.not_mem_nil, or_false] at hc; lia
  have hm := map45 (prog := pw) (X.keeps F3.keep)
  by_cases h43 : c = 43
  · subst h43
    refine tr_text h128 hm (tab43 _) (by rfl) ?_
    intro t' tk'
    (repeat' (first | (k_unfold; (try dsimp only)) | walk1 | (dsimp only; walk1) | (leave1; (try dsimp only)) | fail "no step"))
    (rename Fr s.heap L' _ _ => F4)
    exact PEnd.intro F4 ⟨_, rfl⟩
  · refine tr_none rfl h128 hm (tabNo _ c (by simp only [okSigns, List.mem_cons, List.not_mem_nil, or_false] at hc ⊢; lia)) ?_
    intro t' h' tk' hs
    have F5 := F3.keeps hs
    have e : escM c = [c] := if_neg h43
    (repeat' (first | (k_unfold; (try dsimp only)) | walk1 | (dsimp only; walk1) | (leave1; (try dsimp only)) | fail "no step"))
    (rename Fr s.heap L' _ _ => F6)
    exact PEnd.intro F6 ⟨_, by rw [e]⟩
end
section
open PySem PySem.W PySem.Calls PySem.Spec PyProof PyProof.Rows
noncomputable def transM (l : List Nat) : List (Option (List Nat)) := l.foldl trStep []
theorem transM_succ {l : List Nat} {i c : Nat} (h : l[i]? = some c) : transM (l.take (i + 1)) = trStep (transM (l.take i)) c := by
  unfold transM; rw [take_succ_of h, List.foldl_append]; rfl
theorem trStep_len (acc : List (Option (List Nat))) (c : Nat) : (trStep acc c).length ≤ acc.length + 1 := by
  unfold trStep
  split
  · split
    · exact Nat.le_succ _
    · rw [List.length_append]; exact Nat.le_refl _
  · rw [List.length_append]; exact Nat.le_refl _
theorem fold_len (l : List Nat) : ∀ acc : List (Option (List Nat)), (l.foldl trStep acc).length ≤ acc.length + l.length := by
  induction l with
  | nil => intro acc; exact Nat.le_refl _
  | cons c l ih => intro acc; exact Nat.le_trans (ih _) (by have := trStep_len acc c; rw [List.length_cons]; omega)
theorem transM_len (l : List Nat) : (transM l).length ≤ l.length := Nat.le_trans (fold_len l []) (by simp)
inductive TransR (st : Addr) (xs : List (Option (List Nat))) (h : Heap) (v : Value) (h' : Heap) : Prop
  | mk (r : Addr) (vs : List Value) (k : Nat) (e : v = .ref r) (hn : NewIn h h' [(r, W.listOf vs.toArray k)]) (hP : PartsOf st vs xs)
noncomputable def fT (pat : Str) (st r b : Addr) (i : Nat) : SF := [("i", .num i), ("n", .num pat.length), ("add", .val (.ref b)), ("res", .val (.ref r)), ("STAR", .val (.ref st)), ("pat", .txt pat)]
noncomputable def nT (st r b : Addr) (xs : List (Option (List Nat))) : SL := [(b, oEq (boundObj "list.append" r)), (r, oLst (xs.map (pv st)))]
theorem sg1 {c k : Nat} : (⟨#[c]⟩ : Str) = ⟨#[k]⟩ ↔ c = k := ⟨fun h => by cases h; rfl, fun h => by rw [h]⟩
set_option maxRecDepth 100000 in
set_option maxHeartbeats 4000000 in
theorem t_trans (w : World) : PySem.Challenge.rw_ik0097_01 = PySem.Challenge.rw_ik0097_01 → Kx = Kx → ∀ (pat q : Str) (tp tq : Tok) (st : Addr), pat.length ≤ 40 → (∀ c ∈ pat.cps.toList, c = 42 ∨ c ∈ okSigns) →
    Pur w 62 [.str pat tp, .ref st, .str q tq] 6 200 (fun _ => True) (TransR st (transM pat.cps.toList)) := by
  k_fill
  intro _ _ pat q tp tq st hlen hok
  have hpl := length_toList pat
  (k_dflt (refine' pur_S (by first | decide | lia) ?k6 ?k7 ?k9 ?kB ?hf0 ?_ ?c2 ?c3 ?c4 ?c5; (case k6 => k_is); (case k7 => k_is); (case k9 => (intro _ Xb; first | exact BindsTo.of_eq rfl | exact binds_K (by k_in) rfl (by k_is) rfl rfl rfl)); (case c5 => decide); (case kB => exact locs rfl); (case c2 => exact rfl); (case c3 => exact rfl); (case c4 => exact rfl)); k_whole)
  case hf0 =>
    refine (?_ : AllF _ [("STAR", .val (.ref st)), ("pat", .txt pat)])
    exact ⟨⟨_, rfl, rfl⟩, ⟨_, rfl, Nat.le_trans hlen (by decide), _, rfl⟩, trivial⟩
  intro C hD hU _ Q hQ
  refine g_set (.list (.nil fun r => ?_))
  refine g_set (.bindApp rfl (.head _) fun b => ?_)
  refine g_swap (.v ?_)
  refine g_to (fT pat st r b 0) (nT st r b []) .rfl ?_ (by kernel_rfl)
  refine g_while (α := Nat) (fun n i => n = pat.length - i ∧ i ≤ pat.length) (fun i => fT pat st r b i) (fun i => nT st r b (transM (pat.cps.toList.take i))) _ 0 ⟨rfl, Nat.zero_le _⟩ fun n i hJ => ⟨_, tst, fun hp Q3 q3 => ?_, fun hp => ?_⟩
  · have hlt : i < pat.length := by lia
    obtain ⟨c, hc⟩ : ∃ c, pat.cps.toList[i]? = some c := ⟨_, List.getElem?_eq_getElem (by lia)⟩
    have hcm := hok c (List.mem_of_getElem? hc)
    have hitem : Txt.item pat (i : Int) = ⟨#[c]⟩ := by rw [item_is, List.getD_eq_getElem?_getD, hc]; rfl
    have hstep := transM_succ hc
    have hxl : (transM (pat.cps.toList.take i)).length ≤ 40 := Nat.le_trans (transM_len _) (by rw [List.length_take]; lia)
    generalize transM (pat.cps.toList.take i) = xs at *
    refine g_assign ?_ rfl (by exact ⟨by lia, trivial⟩)
    rw [hitem]
    refine g_assign ?_
    refine g_to (("c", .txt ⟨#[c]⟩) :: fT pat st r b (i + 1)) (nT st r b xs) .rfl ?_ (by kernel_rfl)
    have fin : ∀ xs', xs' = transM (pat.cps.toList.take (i + 1)) → G C [] (("c", .txt ⟨#[c]⟩) :: fT pat st r b (i + 1)) (nT st r b xs') Q3 [] := by
      rintro _ rfl
      exact g_wnext q3 (pat.length - (i + 1)) (i + 1) .rfl (by lia) ⟨rfl, by lia⟩ (by kernel_rfl)
    clear q3
    have hxs : (xs.map (pv st)).length ≤ big := by rw [List.length_map]; unfold big; lia
    have app : ∀ x : Option (List Nat), (nT st r b xs).set 1 (r, oLst (xs.map (pv st) ++ [pv st x])) = nT st r b (xs ++ [x]) := fun x => by unfold nT; rw [List.map_append]; rfl
    refine g_if (fun h42 => ?_) (fun h42 => ?_)
    · obtain rfl : c = 42 := sg1.mp h42
      have hst : ¬ xs.getLast? = some none → xs ++ [none] = transM (pat.cps.toList.take (i + 1)) := fun h => by rw [hstep]; unfold trStep; rw [if_pos rfl, if_neg h]
      rcases List.eq_nil_or_concat xs with rfl | ⟨xs, x, rfl⟩
      · refine g_ifT (TstW.t (tstW_or (q := True) (tst_not (tst_list rfl (.tail _ (.head _)) hxs)) fun h => (h fun h => h rfl).elim)) (fun _ => ?_) fun h => absurd (.inr trivial) h
        exact g_boundApp rfl (.head _) ((ev (a := .val (.ref st))).x ⟨.head _, 1, _, rfl, hxs, g_seq (g_seq (fin [none] (hst fun h => nomatch h)))⟩)
      rw [List.concat_eq_append] at *
      rw [List.map_append] at hxs
      cases x with
      | none =>
        have hm : (r, oLst (xs.map (pv st) ++ [.val (.ref st)])) ∈ nT st r b (xs ++ [none]) := by unfold nT; rw [List.map_append]; exact .tail _ (.head _)
        refine g_ifT (TstW.t (tstW_or (tst_not (tst_list rfl hm hxs)) fun _ => tstW_or (tst_isNotSame (ev_last rfl hm) ev) fun _ => tstW_nilO)) (fun h => h.elim (fun h => (h (by simp)).elim) fun h => (h.elim id id).elim) (fun _ => ?_)
        exact g_seq (g_seq (fin (xs ++ [none]) (by rw [hstep]; unfold trStep; rw [if_pos rfl, if_pos (by simp)])))
      | some y =>
        have hm : (r, oLst (xs.map (pv st) ++ [.txt ⟨y.toArray⟩])) ∈ nT st r b (xs ++ [some y]) := by unfold nT; rw [List.map_append]; exact .tail _ (.head _)
        refine g_ifT (TstW.t (tstW_or (tst_not (tst_list rfl hm hxs)) fun _ => tstW_or (q := True) (tst_isNotTxt (ev_last rfl hm) ev) fun h => (h trivial).elim)) (fun _ => ?_) (fun h => absurd (.inr (.inl trivial)) h)
        exact g_boundApp rfl (.head _) ((ev (a := .val (.ref st))).x ⟨.head _, 1, _, rfl, by rw [List.map_append]; exact hxs, by rw [show (SV.val (.ref st)) = pv st none from rfl, app none]; exact g_seq (g_seq (fin _ (hst (by simp))))⟩)
    · have hcok : c ∈ okSigns := hcm.resolve_left fun e => h42 (sg1.mpr e)
      have hno : c ≠ 63 ∧ c ≠ 91 := by simp only [okSigns, List.mem_cons, List.not_mem_nil, or_false] at hcok; lia
      refine g_if (fun h => absurd (sg1.mp h) hno.1) (fun _ => ?_)
      refine g_if (fun h => absurd (sg1.mp h) hno.2) (fun _ => ?_)
      refine g_boundApp rfl (.head _) (.pur (fa := 55) (.v ?_) (by kernel_rfl) (by kernel_rfl))
      refine AllIs.one fun v ⟨_, u, e⟩ => ?_
      subst e
      refine ⟨_, _, _, _, t_escape w rfl rfl c u hcok, by lia, by lia, fun _ _ => trivial, fun h v h' _ hr => ?_⟩
      obtain ⟨t', rfl⟩ := hr
      refine ⟨sx (escM c), [], ⟨by rw [mk_len]; unfold escM; split <;> exact Nat.le_of_ble_eq_true rfl, _, rfl⟩, .nil, .head _, 1, xs.map (pv st), rfl, hxs, ?_⟩
      rw [show sx (escM c) = pv st (some (escM c)) from rfl, List.nil_append, app]
      exact g_seq (g_seq (g_seq (fin (xs ++ [some (escM c)]) (by rw [hstep]; unfold trStep; rw [if_neg (show ¬ c = 42 from fun e => h42 (sg1.mpr e))]))))
  · obtain rfl : i = pat.length := by lia
    rw [List.take_of_length_le (by lia)]
    refine g_assert tst rfl ?_
    refine g_ret fun v h t hv S => ?_
    cases hv
    obtain ⟨o, h1, ⟨vs, k, hA, rfl⟩, _, h3⟩ := S.at' (.tail _ (.head _))
    exact (hQ _ _ _ _ _ _ S ⟨r, vs, k, rfl, fun p hp => by rw [List.mem_singleton.mp hp]; exact ⟨h3, h1⟩, parts_of hA⟩).1
end
section
open PySem PySem.W PySem.Calls PySem.Spec PyProof PyProof.Rows
noncomputable def partsP : List (List Nat) → List (Option (List Nat))
  | [] => []
  | [p] => p.map fun c => some (escM c)
  | p :: q :: r => (p.map fun c => some (escM c)) ++ none :: partsP (q :: r)
theorem tr_chars : ∀ (p : List Nat) (acc : List (Option (List Nat))), (∀ c ∈ p, c ≠ 42) → p.foldl trStep acc = acc ++ p.map fun c => some (escM c)
  | [], acc, _ => by simp
  | c :: p, acc, h => by
    rw [List.foldl_cons, tr_chars p _ fun d hd => h d (.tail _ hd)]
    unfold trStep
    rw [if_neg (h c (.head _))]
    simp
theorem tr_star (acc : List (Option (List Nat))) (h : acc.getLast? ≠ some none) : [42, 42].foldl trStep acc = acc ++ [none] := by
  rw [List.foldl_cons, List.foldl_cons, List.foldl_nil]
  have e1 : trStep acc 42 = acc ++ [none] := by unfold trStep; rw [if_pos rfl, if_neg h]
  rw [e1]
  unfold trStep
  rw [if_pos rfl, if_pos (by simp)]
noncomputable def midOk : List (List Nat) → Prop
  | [] => True
  | [_] => True
  | _ :: q :: r => (r ≠ [] → q ≠ []) ∧ midOk (q :: r)
theorem tr_glob : ∀ (ps : List (List Nat)) (acc : List (Option (List Nat))), (∀ p ∈ ps, ∀ c ∈ p, c ≠ 42) → midOk ps → (ps.length ≤ 1 ∨ acc.getLast? ≠ some none ∨ ps.headD [] ≠ []) → (joinL [42, 42] ps).foldl trStep acc = acc ++ partsP ps
  | [], acc, _, _, _ => by simp [joinL, partsP]
  | [p], acc, h, _, _ => by simp only [joinL, partsP]; exact tr_chars p acc (h p (.head _))
  | p :: q :: r, acc, h, hm, hl => by
    simp only [joinL, partsP]
    rw [List.foldl_append, List.foldl_append, tr_chars p acc (h p (.head _))]
    have hg : (acc ++ p.map fun c => some (escM c)).getLast? ≠ some none := by
      rcases List.eq_nil_or_concat p with rfl | ⟨p', c, rfl⟩
      · rcases hl with h | h | h
        · simp at h
        · simpa using h
        · exact absurd rfl h
      · rw [List.concat_eq_append]; simp
    rw [tr_star _ hg, tr_glob (q :: r) _ (fun p hp => h p (.tail _ hp)) hm.2 ?_]
    · simp
    · cases r with
      | nil => exact .inl (Nat.le_refl _)
      | cons x r => exact .inr (.inr (hm.1 (by simp)))
theorem partsP_stars : ∀ ps : List (List Nat), ps ≠ [] → ((partsP ps).filter fun x => x.isNone).length = ps.length - 1
  | [], h => absurd rfl h
  | [p], _ => by simp [partsP, List.filter_map, Function.comp_def]
  | p :: q :: r, _ => by
    simp only [partsP, List.filter_append, List.length_append, List.filter_cons]
    have e : ((p.map fun c => some (escM c)).filter fun x => x.isNone).length = 0 := by simp [List.filter_map, Function.comp_def]
    rw [e, if_pos (by rfl), List.length_cons, partsP_stars (q :: r) (by simp)]
    simp
theorem esc_inj {c d : Nat} (h : escM c = escM d) : c = d := by
  unfold escM at h
  split at h <;> split at h <;> simp_all
noncomputable def endsP (text p : List Nat) (E : List Nat) : List Nat := (E.filter fun e => decide (e + p.length ≤ text.length) && ((text.drop e).take p.length == p)).map (· + p.length)
theorem ends_chars (text : List Nat) : ∀ (p E : List Nat), (∀ e ∈ E, e ≤ text.length) → (p.map fun c => some (escM c)).foldl (endsStep text) E = endsP text p E
  | [], E, h => by
    unfold endsP
    have : E.filter (fun e => decide (e + ([] : List Nat).length ≤ text.length) && ((text.drop e).take ([] : List Nat).length == [])) = E := List.filter_eq_self.mpr fun e he => by simpa using h e he
    rw [this]
    simp
  | c :: p, E, h => by
    rw [List.map_cons, List.foldl_cons, ends_chars text p _ ?_]
    · unfold endsP endsStep
      rw [List.filter_map, List.map_map, List.filter_filter]
      have e1 : ∀ e ∈ E, (((fun e => decide (e + p.length ≤ text.length) && ((text.drop e).take p.length == p)) ∘ (· + 1)) e && (decide (e < text.length) && (escM c == escM (text.getD e 0)))) = (decide (e + (c :: p).length ≤ text.length) && ((text.drop e).take (c :: p).length == c :: p)) := by
        intro e he
        simp only [Function.comp, List.length_cons]
        by_cases hlt : e < text.length
        · have hd : text.drop e = text[e] :: text.drop (e + 1) := List.drop_eq_getElem_cons hlt
          rw [hd, List.take_succ_cons, List.getD_eq_getElem?_getD, List.getElem?_eq_getElem hlt, Option.getD_some]
          have e2 : (escM c == escM text[e]) = (text[e] == c) := by
            by_cases hc : text[e] = c
            · rw [hc]; simp
            · have : escM c ≠ escM text[e] := fun q => hc (esc_inj q).symm
              rw [beq_eq_false_iff_ne.mpr this, beq_eq_false_iff_ne.mpr hc]
          rw [e2, List.cons_beq_cons]
          have e4 : (e + 1 + p.length ≤ text.length) ↔ (e + (p.length + 1) ≤ text.length) := by lia
          have e3 : decide (e + 1 + p.length ≤ text.length) = decide (e + (p.length + 1) ≤ text.length) := decide_eq_decide.mpr e4
          rw [e3]
          simp only [hlt, decide_true, Bool.true_and]
          cases decide (e + (p.length + 1) ≤ text.length) <;> cases (text[e] == c) <;> simp
        · have : ¬ e + (p.length + 1) ≤ text.length := by lia
          simp [hlt, this]
      rw [List.filter_congr e1]
      refine List.map_congr_left fun e _ => ?_
      simp only [Function.comp, List.length_cons]; lia
    · intro e he
      unfold endsStep at he
      obtain ⟨d, hd, rfl⟩ := List.mem_map.mp he
      rw [List.mem_filter] at hd
      simp only [Bool.and_eq_true, decide_eq_true_eq] at hd
      lia
noncomputable def up (text : List Nat) (m : Nat) : List Nat := (List.range (text.length + 1)).filter fun e => decide (m ≤ e)
theorem findM_of {text q : List Nat} {place last k : Nat} (h1 : place ≤ k) (h2 : atB text q last k = true) (h3 : ∀ a, place ≤ a → a < k → atB text q last a = false) : findM text q place last = some k := by
  unfold findM
  rw [List.find?_range'_eq_some]
  have h4 := h2
  unfold atB at h4
  simp only [Bool.and_eq_true, decide_eq_true_eq] at h4
  exact ⟨h2, by rw [List.mem_range'_1]; lia, fun a ha hk => by rw [h3 a ha hk]; rfl⟩
theorem findM_none_of {text q : List Nat} {place last : Nat} (h : ∀ a, place ≤ a → atB text q last a = false) : findM text q place last = none := by
  unfold findM
  rw [List.find?_eq_none]
  intro a ha
  rw [h a (List.mem_range'_1.mp ha).1]; decide
theorem saidLoop_ge (text : List Nat) (last : Nat) : ∀ (qs : List (List Nat)) (pl r : Nat), saidLoop text last qs pl = some r → pl ≤ r
  | [], pl, r, h => by cases h; exact Nat.le_refl _
  | q :: qs, pl, r, h => by
    simp only [saidLoop] at h
    cases hf : findM text q pl last with
    | none => rw [hf] at h; cases h
    | some k =>
      rw [hf] at h
      have := saidLoop_ge text last qs _ r h
      have := (findM_some hf).1
      lia
theorem saidLoop_bound (text : List Nat) (last : Nat) (hl : last ≤ text.length) : ∀ (qs : List (List Nat)) (pl : Nat), pl ≤ last → saidLoop text last qs pl = match saidLoop text text.length qs pl with | some m => if m ≤ last then some m else none | none => none
  | [], pl, h => by simp only [saidLoop]; rw [if_pos h]
  | q :: qs, pl, h => by
    have hat : ∀ a, atB text q last a = true → atB text q text.length a = true := by
      intro a ha
      unfold atB at ha ⊢
      simp only [Bool.and_eq_true, decide_eq_true_eq] at ha ⊢
      exact ⟨by lia, ha.2⟩
    simp only [saidLoop]
    cases hf : findM text q pl text.length with
    | none =>
      have : findM text q pl last = none := findM_none_of fun a ha => by
        have := findM_none hf a ha
        cases hq : atB text q last a with
        | false => rfl
        | true => rw [hat a hq] at this; cases this
      rw [this]
    | some k =>
      obtain ⟨k1, k2, k3, k4⟩ := findM_some hf
      by_cases hk : k + q.length ≤ last
      · have : findM text q pl last = some k := findM_of k1 (by unfold atB; simp [hk, k3]) fun a ha hak => by
          have := k4 a ha hak
          cases hq : atB text q last a with
          | false => rfl
          | true => rw [hat a hq] at this; cases this
        rw [this]
        exact saidLoop_bound text last hl qs _ hk
      · have : findM text q pl last = none := findM_none_of fun a ha => by
          cases hq : atB text q last a with
          | false => rfl
          | true =>
            have h5 := hq
            unfold atB at h5
            simp only [Bool.and_eq_true, decide_eq_true_eq] at h5
            have : k ≤ a := by
              rcases Nat.lt_or_ge a k with h | h
              · have := k4 a ha h; rw [hat a hq] at this; cases this
              · exact h
            lia
        rw [this]
        dsimp only
        cases hs : saidLoop text text.length qs (k + q.length) with
        | none => rfl
        | some m =>
          have := saidLoop_ge _ _ _ _ _ hs
          dsimp only
          rw [if_neg (by lia)]
theorem ends_mem {text q : List Nat} {m e : Nat} : e ∈ endsP text q (up text m) ↔ ∃ d, e = d + q.length ∧ m ≤ d ∧ atB text q text.length d = true := by
  unfold endsP up atB
  rw [List.mem_map]
  constructor
  · rintro ⟨d, hd, rfl⟩
    rw [List.mem_filter, List.mem_filter] at hd
    simp only [decide_eq_true_eq] at hd
    exact ⟨d, rfl, hd.1.2, hd.2⟩
  · rintro ⟨d, rfl, h1, h2⟩
    refine ⟨d, ?_, rfl⟩
    rw [List.mem_filter, List.mem_filter, List.mem_range]
    have h3 := h2
    simp only [Bool.and_eq_true, decide_eq_true_eq] at h3
    exact ⟨⟨by lia, by simpa using h1⟩, h2⟩
theorem ends_sorted (text q : List Nat) (m : Nat) : (endsP text q (up text m)).Pairwise (· < ·) := by
  unfold endsP up
  rw [List.pairwise_map]
  refine List.Pairwise.imp (R := (· < ·)) (fun {a b} h => by lia) ?_
  exact List.Pairwise.filter _ (List.Pairwise.filter _ List.pairwise_lt_range)
theorem ends_star (text q : List Nat) (m : Nat) : endsStep text (endsP text q (up text m)) none = match findM text q m text.length with | some k => up text (k + q.length) | none => [] := by
  cases hf : findM text q m text.length with
  | none =>
    have : endsP text q (up text m) = [] := by
      refine List.eq_nil_iff_forall_not_mem.mpr fun e he => ?_
      obtain ⟨d, _, h1, h2⟩ := ends_mem.mp he
      rw [findM_none hf d h1] at h2; cases h2
    rw [this]
    unfold endsStep
    simp
  | some k =>
    obtain ⟨k1, k2, k3, k4⟩ := findM_some hf
    have hmem : k + q.length ∈ endsP text q (up text m) := ends_mem.mpr ⟨k, rfl, k1, by unfold atB; simp [k2, k3]⟩
    have hs := ends_sorted text q m
    cases hE : endsP text q (up text m) with
    | nil => rw [hE] at hmem; cases hmem
    | cons a l =>
      rw [hE] at hs hmem
      have ha : a = k + q.length := by
        obtain ⟨d, hd, h1, h2⟩ := ends_mem.mp (show a ∈ endsP text q (up text m) by rw [hE]; exact .head _)
        have : k ≤ d := by
          rcases Nat.lt_or_ge d k with h | h
          · rw [k4 d h1 h] at h2; cases h2
          · exact h
        rcases List.mem_cons.mp hmem with h | h
        · exact h.symm
        · have := (List.pairwise_cons.mp hs).1 _ h; lia
      subst ha
      unfold endsStep up
      simp
theorem ends_none (text : List Nat) : ∀ ps : List (Option (List Nat)), ps.foldl (endsStep text) [] = []
  | [] => rfl
  | none :: ps => by
    rw [List.foldl_cons]
    have : endsStep text [] none = [] := by unfold endsStep; simp
    rw [this]; exact ends_none text ps
  | some x :: ps => by
    rw [List.foldl_cons]
    have : endsStep text [] (some x) = [] := rfl
    rw [this]; exact ends_none text ps
theorem up_le (text : List Nat) (m : Nat) : ∀ e ∈ up text m, e ≤ text.length := by
  intro e he
  unfold up at he
  rw [List.mem_filter, List.mem_range] at he
  lia
theorem ends_rest (text q : List Nat) : ∀ (pm : List (List Nat)) (m : Nat), ((partsP (pm ++ [q])).foldl (endsStep text) (up text m)).contains text.length = match saidLoop text text.length pm m with | some r => decide (r + q.length ≤ text.length) && (text.drop (text.length - q.length) == q) | none => false
  | [], m => by
    simp only [List.nil_append, partsP, saidLoop]
    rw [ends_chars text q _ (up_le text m)]
    rw [Bool.eq_iff_iff, List.contains_iff_mem, ends_mem]
    simp only [Bool.and_eq_true, decide_eq_true_eq, beq_iff_eq]
    constructor
    · rintro ⟨d, h1, h2, h3⟩
      unfold atB at h3
      simp only [Bool.and_eq_true, decide_eq_true_eq, beq_iff_eq] at h3
      refine ⟨by lia, ?_⟩
      rw [show text.length - q.length = d by lia]
      have h4 := h3.2
      rwa [List.take_of_length_le (by rw [List.length_drop]; lia)] at h4
    · rintro ⟨h1, h2⟩
      refine ⟨text.length - q.length, by lia, by lia, ?_⟩
      unfold atB
      simp only [Bool.and_eq_true, decide_eq_true_eq, beq_iff_eq]
      refine ⟨by lia, ?_⟩
      rw [h2]; simp
  | p :: pm, m => by
    have e : partsP (p :: pm ++ [q]) = (p.map fun c => some (escM c)) ++ none :: partsP (pm ++ [q]) := by
      cases pm <;> rfl
    rw [e, List.foldl_append, ends_chars text p _ (up_le text m), List.foldl_cons, ends_star]
    simp only [saidLoop]
    cases hf : findM text p m text.length with
    | none => dsimp only; rw [ends_none]; rfl
    | some k => dsimp only; exact ends_rest text q pm _
theorem fits_said (text p q : List Nat) (pm : List (List Nat)) : fitsM text (partsP (p :: (pm ++ [q]))) = saidM text (p :: (pm ++ [q])) := by
  rw [saidM_two]
  have e : partsP (p :: (pm ++ [q])) = (p.map fun c => some (escM c)) ++ none :: partsP (pm ++ [q]) := by
    cases pm <;> rfl
  unfold fitsM endsM
  rw [e, List.foldl_append, ends_chars text p [0] (by simp), List.foldl_cons]
  by_cases hp : text.take p.length = p
  · have hpl : p.length ≤ text.length := by
      have := congrArg List.length hp
      rw [List.length_take] at this; lia
    have e1 : endsP text p [0] = [p.length] := by
      unfold endsP
      simp [hpl, hp]
    have e2 : endsStep text [p.length] none = up text p.length := by
      unfold endsStep up
      simp
    rw [e1, e2, ends_rest]
    by_cases hlen : text.length < p.length + q.length
    · rw [if_pos (.inr (.inl hlen))]
      cases hs : saidLoop text text.length pm p.length with
      | none => rfl
      | some r =>
        have := saidLoop_ge _ _ _ _ _ hs
        have h0 : ¬ r + q.length ≤ text.length := by lia
        simp [h0]
    · by_cases hd : text.drop (text.length - q.length) = q
      · rw [if_neg (by simp [hp, hd]; lia), saidLoop_bound text (text.length - q.length) (by lia) pm p.length (by lia)]
        cases hs : saidLoop text text.length pm p.length with
        | none => rfl
        | some r =>
          dsimp only
          by_cases hr : r ≤ text.length - q.length
          · have h0 : r + q.length ≤ text.length := by lia
            rw [if_pos hr]; simp [h0, hd]
          · have h0 : ¬ r + q.length ≤ text.length := by lia
            rw [if_neg hr]; simp [h0]
      · rw [if_pos (.inr (.inr hd))]
        cases hs : saidLoop text text.length pm p.length with
        | none => rfl
        | some r => simp [hd]
  · rw [if_pos (.inl hp)]
    have e1 : endsP text p [0] = [] := by
      unfold endsP
      have : ¬ (p.length ≤ text.length ∧ text.take p.length = p) := fun h => hp h.2
      simp [hp]
    have e2 : endsStep text [] none = [] := by unfold endsStep; simp
    rw [e1, e2, ends_none]; rfl
theorem fits_one (text p : List Nat) : fitsM text (partsP [p]) = saidM text [p] := by
  unfold fitsM endsM saidM
  simp only [partsP]
  rw [ends_chars text p [0] (by simp)]
  unfold endsP
  simp only [List.length_cons, List.length_nil, if_true, List.headD_cons]
  rw [Bool.eq_iff_iff, List.contains_iff_mem, beq_iff_eq, List.mem_map]
  constructor
  · rintro ⟨d, hd, h2⟩
    rw [List.mem_filter, List.mem_singleton] at hd
    obtain ⟨rfl, h3⟩ := hd
    simp only [Bool.and_eq_true, decide_eq_true_eq, beq_iff_eq, List.drop_zero] at h3
    have h4 := h3.2
    rw [List.take_of_length_le (by lia)] at h4
    exact h4
  · rintro rfl
    exact ⟨0, by simp, by simp⟩
theorem fits_all (text : List Nat) (ps : List (List Nat)) (h : ps ≠ []) : fitsM text (partsP ps) = saidM text ps := by
  cases ps with
  | nil => exact absurd rfl h
  | cons p r =>
    rcases List.eq_nil_or_concat r with rfl | ⟨pm, q, rfl⟩
    · exact fits_one text p
    · rw [List.concat_eq_append]; exact fits_said text p q pm
end
section
open PySem
structure JI (f g : List Nat) (k : Nat) (st : JSt) : Prop where
  chars : ∀ p ∈ st.1 ++ [st.2.1], ∀ c ∈ p, c ∈ f
  len : ((st.1 ++ [st.2.1]).map List.length).sum ≤ st.2.2.2.1
  n : st.1.length ≤ k
  both : st.2.2.1.length ≤ st.2.2.2.1 + st.2.2.2.2
  mid : midOk (st.1 ++ [st.2.1])
theorem midOk_swap : ∀ {xs : List (List Nat)} {x y : List Nat}, midOk (xs ++ [x]) → midOk (xs ++ [y])
  | [], _, _, _ => trivial
  | [_], _, _, _ => ⟨fun h => absurd rfl h, trivial⟩
  | a :: b :: xs, x, y, h => by
    have h' : (xs ++ [x] ≠ [] → b ≠ []) ∧ midOk (b :: (xs ++ [x])) := h
    show (xs ++ [y] ≠ [] → b ≠ []) ∧ midOk (b :: (xs ++ [y]))
    exact ⟨fun _ => h'.1 (by simp), midOk_swap (xs := b :: xs) h'.2⟩
theorem midOk_snoc : ∀ {xs : List (List Nat)} {x y : List Nat}, midOk (xs ++ [x]) → (xs ≠ [] → x ≠ []) → midOk (xs ++ [x] ++ [y])
  | [], _, _, _, _ => ⟨fun h => absurd rfl h, trivial⟩
  | [a], x, y, _, h => by
    show ([y] ≠ [] → x ≠ []) ∧ midOk [x, y]
    exact ⟨fun _ => h (by simp), fun h => absurd rfl h, trivial⟩
  | a :: b :: xs, x, y, h, hn => by
    have h' : (xs ++ [x] ≠ [] → b ≠ []) ∧ midOk (b :: (xs ++ [x])) := h
    show (xs ++ [x] ++ [y] ≠ [] → b ≠ []) ∧ midOk (b :: (xs ++ [x] ++ [y]))
    exact ⟨fun _ => h'.1 (by simp), midOk_snoc (xs := b :: xs) h'.2 fun _ => hn (by simp)⟩
theorem ji_step {f g : List Nat} {k : Nat} {st : JSt} {b : Nat × Nat × Nat} (hf : f.length = 8) (hg : g.length = 8) (h : JI f g k st) (hne : st.1 ≠ [] → st.2.1 ≠ []) (h1 : st.2.2.2.1 ≤ b.1) (h2 : st.2.2.2.2 ≤ b.2.1) (h3 : b.1 + b.2.2 ≤ 8) (h4 : b.2.1 + b.2.2 ≤ 8) :
    JI f g (k + 1) (joinStep f g st b) ∧ (0 < b.2.2 → (joinStep f g st b).1 ≠ [] → (joinStep f g st b).2.1 ≠ []) := by
  obtain ⟨P, l, bo, i, j⟩ := st
  obtain ⟨b1, b2, b3⟩ := b
  obtain ⟨c, ln, n, bt, md⟩ := h
  dsimp only at c ln n bt md hne h1 h2 h3 h4
  have hs : ((f.drop b1).take b3).length = b3 := by rw [List.length_take, List.length_drop]; lia
  have hsf : ∀ z ∈ (f.drop b1).take b3, z ∈ f := fun z hz => List.mem_of_mem_drop (List.mem_of_mem_take hz)
  have hbo : (bo ++ (f.drop i).take (b1 - i) ++ (g.drop j).take (b2 - j) ++ (f.drop b1).take b3).length ≤ b1 + b3 + (b2 + b3) := by
    rw [List.length_append, List.length_append, List.length_append]
    refine Nat.le_trans (Nat.add_le_add (Nat.add_le_add (Nat.add_le_add bt (List.length_take_le ..)) (List.length_take_le ..)) (List.length_take_le ..)) ?_
    clear hs hsf bt md h3 h4 hf hg
    lia
  simp only [List.map_append, List.sum_append, List.map_cons, List.map_nil, List.sum_cons, List.sum_nil] at ln
  by_cases hq : b1 > i ∨ b2 > j
  · have e : joinStep f g (P, l, bo, i, j) (b1, b2, b3) = (P ++ [l], [] ++ (f.drop b1).take b3, bo ++ (f.drop i).take (b1 - i) ++ (g.drop j).take (b2 - j) ++ (f.drop b1).take b3, b1 + b3, b2 + b3) := by
      unfold joinStep; dsimp only; rw [if_pos hq]
    rw [e]
    refine ⟨⟨?_, ?_, ?_, hbo, ?_⟩, ?_⟩
    · intro p hp
      dsimp only at hp
      rcases List.mem_append.mp hp with hp | hp
      · exact c p hp
      · rw [List.mem_singleton.mp hp]; exact hsf
    · simp only [List.map_append, List.sum_append, List.map_cons, List.map_nil, List.sum_cons, List.sum_nil, List.nil_append, hs]; lia
    · simp only [List.length_append, List.length_singleton]; lia
    · exact midOk_snoc md hne
    · intro hb _ hx
      have hb' : 0 < b3 := hb
      dsimp only at hx
      have := congrArg List.length hx
      rw [List.nil_append, hs] at this
      simp at this; lia
  · have e : joinStep f g (P, l, bo, i, j) (b1, b2, b3) = (P, l ++ (f.drop b1).take b3, bo ++ (f.drop i).take (b1 - i) ++ (g.drop j).take (b2 - j) ++ (f.drop b1).take b3, b1 + b3, b2 + b3) := by
      unfold joinStep; dsimp only; rw [if_neg hq]
    rw [e]
    refine ⟨⟨?_, ?_, Nat.le_succ_of_le n, hbo, ?_⟩, ?_⟩
    · intro p hp
      dsimp only at hp
      rcases List.mem_append.mp hp with hp | hp
      · exact c p (List.mem_append_left _ hp)
      · rw [List.mem_singleton.mp hp]
        intro z hz
        rcases List.mem_append.mp hz with hz | hz
        · exact c l (List.mem_append_right _ (.head _)) z hz
        · exact hsf z hz
    · simp only [List.map_append, List.sum_append, List.map_cons, List.map_nil, List.sum_cons, List.sum_nil, List.length_append, hs]; lia
    · exact midOk_swap md
    · intro hb _ hx
      have hb' : 0 < b3 := hb
      dsimp only at hx
      have := congrArg List.length hx
      rw [List.length_append, hs] at this
      simp at this; lia
theorem ji_all {f g : List Nat} (hf : f.length = 8) (hg : g.length = 8) : ∀ (l : List (Nat × Nat × Nat)) (k : Nat) (st : JSt), JI f g k st → (st.1 ≠ [] → st.2.1 ≠ []) → okB st.2.2.2.1 st.2.2.2.2 (l ++ [(8, 8, 0)]) → (∀ b ∈ l, 0 < b.2.2) →
    JI f g (k + l.length + 1) ((l ++ [(8, 8, 0)]).foldl (joinStep f g) st) ∧ ((l ++ [(8, 8, 0)]).foldl (joinStep f g) st).2.2.2.1 = 8 ∧ ((l ++ [(8, 8, 0)]).foldl (joinStep f g) st).2.2.2.2 = 8
  | [], k, st, h, hne, ho, _ => by
    obtain ⟨h1, h2, _⟩ := ho
    exact ⟨(ji_step hf hg h hne h1 h2 (by decide) (by decide)).1, rfl, rfl⟩
  | b :: l, k, st, h, hne, ho, hp => by
    obtain ⟨h1, h2, h3⟩ := ho
    have h4 := okB_le h3
    obtain ⟨s1, s2⟩ := ji_step hf hg h hne h1 h2 h4.1 h4.2
    have := ji_all hf hg l (k + 1) (joinStep f g st b) s1 (s2 (hp b (.head _))) h3 fun c hc => hp c (.tail _ hc)
    rw [show k + 1 + l.length + 1 = k + (b :: l).length + 1 by simp; lia] at this
    exact this
theorem joined {f g : List Nat} (hf : f.length = 8) (hg : g.length = 8) : ∃ ps bo, ps = (joinM f g (blocksM 9 f g 0 0 ++ [(8, 8, 0)])).1 ++ [(joinM f g (blocksM 9 f g 0 0 ++ [(8, 8, 0)])).2.1] ∧ bo = (joinM f g (blocksM 9 f g 0 0 ++ [(8, 8, 0)])).2.2.1 ∧
    (∀ p ∈ ps, ∀ c ∈ p, c ∈ f) ∧ (ps.map List.length).sum ≤ 8 ∧ ps.length ≤ 7 ∧ ps ≠ [] ∧ bo.length ≤ 16 ∧ midOk ps := by
  refine ⟨_, _, rfl, rfl, ?_⟩
  rw [← blk_is hf hg]
  obtain ⟨h1, h2⟩ := blk_ok (f := f) (g := g) 8 0 8 0 8 (by lia) (by lia) (by lia) (by lia) (by lia)
  have h5 := blk_count hf hg
  have ho : okB 0 0 (blk f g 0 8 0 8 ++ [(8, 8, 0)]) := okB_of h2 (fun b hb => by
    obtain ⟨m, _⟩ := h1 b hb
    have c1 := m.a1; have c3 := m.b1
    lia) (by lia) (by lia)
  obtain ⟨J, e1, e2⟩ := ji_all hf hg (blk f g 0 8 0 8) 0 ([], [], [], 0, 0) ⟨by simp, by simp, by simp, by simp, trivial⟩ (fun h => absurd rfl h) ho fun b hb => (h1 b hb).2
  have hn := J.n
  have hb := J.both
  have hl := J.len
  rw [e1] at hl hb
  rw [e2] at hb
  refine ⟨J.chars, hl, ?_, by simp, hb, J.mid⟩
  simp only [List.length_append, List.length_singleton]
  unfold joinM
  lia
theorem joinL_len (sep : List Nat) : ∀ xs : List (List Nat), (joinL sep xs).length ≤ (xs.map List.length).sum + xs.length * sep.length
  | [] => by simp [joinL]
  | [x] => by simp [joinL]
  | x :: y :: r => by
    have := joinL_len sep (y :: r)
    simp only [joinL, List.length_append, List.map_cons, List.sum_cons, List.length_cons] at this ⊢
    rw [Nat.add_mul (r.length + 1) 1]
    lia
theorem joinL_mem (sep : List Nat) : ∀ (xs : List (List Nat)) (c : Nat), c ∈ joinL sep xs → c ∈ sep ∨ ∃ p ∈ xs, c ∈ p
  | [], c, h => by simp [joinL] at h
  | [x], c, h => .inr ⟨x, .head _, h⟩
  | x :: y :: r, c, h => by
    simp only [joinL, List.mem_append] at h
    rcases h with (h | h) | h
    · exact .inr ⟨x, .head _, h⟩
    · exact .inl h
    · rcases joinL_mem sep (y :: r) c h with h | ⟨p, hp, h⟩
      · exact .inl h
      · exact .inr ⟨p, .tail _ hp, h⟩
theorem partsP_len : ∀ ps : List (List Nat), (partsP ps).length ≤ (ps.map List.length).sum + ps.length
  | [] => by simp [partsP]
  | [x] => by simp [partsP]
  | x :: y :: r => by
    have := partsP_len (y :: r)
    simp only [partsP, List.length_append, List.length_map, List.map_cons, List.sum_cons, List.length_cons] at this ⊢
    lia
theorem partsP_two : ∀ (ps : List (List Nat)) (p : List Nat), some p ∈ partsP ps → p.length ≤ 2
  | [], p, h => by simp [partsP] at h
  | [x], p, h => by
    simp only [partsP, List.mem_map] at h
    obtain ⟨c, _, h⟩ := h
    obtain rfl := Option.some.inj h
    unfold escM; split <;> simp
  | x :: y :: r, p, h => by
    simp only [partsP, List.mem_append, List.mem_map, List.mem_cons] at h
    rcases h with ⟨c, _, h⟩ | h | h
    · obtain rfl := Option.some.inj h
      unfold escM; split <;> simp
    · cases h
    · exact partsP_two (y :: r) p h
end
section
open PySem PySem.W PySem.Calls PySem.Spec PyProof PyProof.Rows
set_option maxRecDepth 100000
theorem law_enter {w : World} {cs : Scope} (C : Cx w cs) {body : List Stmt} {f : SF} {Q : Flow → Shared → Prop} {h : Heap} {t : Nat} {c1 c2 c3 : Addr} {x1 x2 x3 : Str} {P : Heap → Prop} (hcl : C.cl = [(x1, c1), (x2, c2), (x3, c3)]) (hd : C.A.depth + 38 < recursionLimit) (hu : C.A.units + 3900 < cLine) (hP : P C.s.heap) (S : C.St [] f [(c1, oCell0), (c2, oCell0), (c3, oCell0)] h) (hQ : ∀ h t m, Fr C.s.heap C.L h m → Q (.ret (.bool true)) (C.at h t))
    (H : ∀ (C : Cx w cs) (c1 c2 c3 : Addr), C.cl = [(x1, c1), (x2, c2), (x3, c3)] → C.A.depth + 38 < recursionLimit → C.A.units + 3900 < cLine → P C.s.heap → (∀ v h t kp f n, v = .bool true → C.St kp f n h → Q (.ret v) (C.at h t)) → G C [] f [(c1, oCell0), (c2, oCell0), (c3, oCell0)] Q body) : wpAny (model pw w) C.A (execs body C.env) Q C.E (C.at h t) :=
  (H C c1 c2 c3 hcl hd hu hP fun v h t kp f n e S => by
    subst e
    obtain ⟨m, F, _⟩ := S.fr
    exact hQ h t m F).run h t S
theorem nd3 (a : Nat) : [a + 1 + 1 + 1, a + 1 + 1, a + 1].Nodup := by simp; omega
theorem lw : looseW vw ls = lsW := by decide +kernel
noncomputable def rowI : List Int := [72, 101, 108, 251, 111, 33]
theorem rowI_octs : Octs rowI := ⟨rfl, by decide⟩
theorem AllIs.take : ∀ {as : List SV} {vs : List Value} {k : Nat}, AllIs as vs → AllIs (as.take k) (vs.take k)
  | [], [], _, _ => by rw [List.take_nil, List.take_nil]; trivial
  | _ :: _, _ :: _, 0, _ => trivial
  | _ :: _, _ :: _, k + 1, h => ⟨h.1, AllIs.take (k := k) h.2⟩
  | [], _ :: _, _, h => h.elim
  | _ :: _, [], _, h => h.elim
theorem take3_of {as : List SV} {vs : List Value} (h : AllIs as vs) : AllIs (as.take 3) (slicePick vs.toArray none (some 3) none).toList := by
  have e : (slicePick vs.toArray none (some 3) none).toList = vs.take 3 := by
    rw [slicePick_plain]
    show ((vs.drop 0).take (clipAt vs.toArray.size 3 - 0)) = vs.take 3
    rw [List.drop_zero, Nat.sub_zero, List.take_eq_take_iff, List.size_toArray]
    have e : clipAt vs.length 3 = min 3 vs.length := by
      unfold clipAt
      rw [if_neg (by decide)]
      have q : min (3 : Int) vs.length = ((min 3 vs.length : Nat) : Int) := (Lean.Omega.Int.ofNat_min 3 vs.length).symm
      rw [q, Int.max_eq_right (Int.natCast_nonneg _), Int.toNat_natCast]
    rw [e]
    exact Nat.min_eq_left (Nat.min_le_right _ _)
  rw [e]; exact h.take
theorem take3_of' {ms : List Int} {vs : List Value} (h : AllIs (ms.map SV.num) vs) : AllIs ((ms.take 3).map SV.num) (slicePick vs.toArray none (some 3) none).toList := by
  rw [List.map_take]; exact take3_of h
theorem len4 (ms : List Int) : ([SV.num 458] : List SV).length + ((ms.take 3).map SV.num).length ≤ big := by
  rw [List.length_map, List.length_take, List.length_singleton]; unfold big; omega
theorem coded_small (ns : List Int) : ∀ z ∈ codedM ns, z < 256 := by
  intro z hz
  simp only [codedM, code3, List.cons_append, List.nil_append, List.mem_cons, List.not_mem_nil, or_false] at hz
  rcases hz with h | h | h | h | h | h | h | h <;> (rw [h]; exact alphaS_small _)
theorem joinL_ones : ∀ l : List Nat, joinL [] (l.map fun z => [z]) = l
  | [] => rfl
  | [_] => rfl
  | a :: b :: r => by
    have := joinL_ones (b :: r)
    simp only [List.map_cons] at this ⊢
    simp [joinL, this]
noncomputable def fL1 (rw ot : Addr) (ns : List Int) : SF := [("second", sx (codedM ns)), ("first", sx (codedM rowI)), ("other", .val (.ref ot)), ("row", .val (.ref rw))]
noncomputable def nL1 (rw ot c1 c2 c3 : Addr) (ns : List Int) : SL := [(ot, oLst (ns.map .num)), (rw, oLst (rowI.map .num)), (c1, oCell0), (c2, oCell0), (c3, oCell0)]
noncomputable def bL1 (ns : List Int) (j : Nat) : List SV := (([codedM rowI, codedM ns].take j).map sx)
noncomputable def bL2 (ns : List Int) (j : Nat) : List SV := ((codedM ns).take j).map fun z => sx [z]
inductive RowI (rw ot : Addr) (ns : List Int) (n : SL) (j : Nat) (a : SV) : Prop
  | mk (r : Addr) (ms : List Int) (e : a = .val (.ref r)) (hm : (r, oLst (ms.map .num)) ∈ n) (ho : Octs ms) (hb : bL1 ns (j + 1) = bL1 ns j ++ [sx (codedM ms)])
theorem rowI_at {rw ot c1 c2 c3 : Addr} {ns : List Int} (ho : Octs ns) {j : Nat} (hj : j < 2) : RowI rw ot ns (nL1 rw ot c1 c2 c3 ns) j ((([.val (.ref rw), .val (.ref ot)] : List SV)[j]?).getD (.val .none)) :=
  match j, hj with
  | 0, _ => ⟨rw, rowI, rfl, .tail _ (.head _), rowI_octs, rfl⟩
  | 1, _ => ⟨ot, ns, rfl, .head _, ho, rfl⟩
theorem bL2_succ {ns : List Int} {i : Nat} (h : i < 8) : bL2 ns (i + 1) = bL2 ns i ++ [sx [(codedM ns).getD i 0]] := by
  have hl : (codedM ns).length = 8 := rfl
  unfold bL2
  rw [List.take_add_one, List.getElem?_eq_getElem (by rw [hl]; exact h), List.map_append, List.getD_eq_getElem?_getD, List.getElem?_eq_getElem (by rw [hl]; exact h)]; rfl
theorem blocks_len (f g : List Nat) (h : f.length = 8) (h' : g.length = 8) : (blocksM 9 f g 0 0).length ≤ 5 := by
  rw [← blk_is h h']; exact blk_count h h'
noncomputable def nC (c1 c2 c3 : Addr) : SL := [(c1, oCell0), (c2, oCell0), (c3, oCell0)]
noncomputable def fL3 (F G : List Nat) : SF := [("second", sx G), ("first", sx F)]
noncomputable def nB (c1 c2 c3 bD T : Addr) (vs : List Value) (tl : List (Addr × Obj)) : SL := (bD, vL vs) :: (T, o3 (8, 8, 0)) :: (oEqs tl ++ nC c1 c2 c3)
theorem Pick.of_sub {a b : SL} (h : a.Sublist b) : Pick a b := ⟨fun p hp => ⟨p.2, h.subset hp, fun _ h => h⟩, fun nd => nd.sublist (h.map _)⟩
theorem tupsAt_in {h : Heap} {led : List (Addr × Obj)} (hg : ∀ p ∈ led, h.get? p.1 = some p.2) : ∀ {vs : List Value} {bl : List (Nat × Nat × Nat)}, TupsIn led vs bl → TupsAt h vs bl
  | [], [], _ => trivial
  | _ :: _, _ :: _, ⟨⟨a, x, y, z, e1, e2⟩, T⟩ => ⟨⟨a, x, y, z, e1, hg _ e2⟩, tupsAt_in hg T⟩
  | [], _ :: _, T => T.elim
  | _ :: _, [], T => T.elim
theorem tups_app {h : Heap} : ∀ {vs : List Value} {bl : List (Nat × Nat × Nat)} {vs' : List Value} {bl' : List (Nat × Nat × Nat)}, TupsAt h vs bl → TupsAt h vs' bl' → TupsAt h (vs ++ vs') (bl ++ bl')
  | [], [], _, _, _, T' => T'
  | _ :: _, _ :: _, _, _, ⟨a, T⟩, T' => ⟨a, tups_app T T'⟩
  | [], _ :: _, _, _, T, _ => T.elim
  | _ :: _, [], _, _, T, _ => T.elim
theorem tups_st {w : World} {cs : Scope} {md : Bool} {C : CxU w cs md} {kp : List (Addr × Obj)} {f : SF} {c1 c2 c3 bD T : Addr} {vs bv : List Value} {bl : List (Nat × Nat × Nat)} {tl : List (Addr × Obj)} {h : Heap} (hT : TupsIn tl bv bl) (S : C.St kp f (nB c1 c2 c3 bD T vs tl) h) : TupsAt h (bv ++ [.ref T]) (bl ++ [(8, 8, 0)]) :=
  tups_app (tupsAt_in (led := tl) (fun p hp => by
    obtain ⟨o, h1, h2, _⟩ := S.at' (a := p.1) (P := oEq p.2) (.tail _ (.tail _ (List.mem_append_left _ (mem_oEqs hp))))
    cases h2
    exact h1) hT) ⟨by
    obtain ⟨o, h1, h2, _⟩ := S.at' (a := T) (P := o3 (8, 8, 0)) (.tail _ (.head _))
    obtain ⟨x, y, z, rfl⟩ := o3_is h2
    exact ⟨T, x, y, z, rfl, h1⟩, trivial⟩
inductive MatI (led : List (Addr × Obj)) (v : Value) (b : Nat × Nat × Nat) : Prop
  | mk (m : Addr) (x y z : Tok) (dx : Addr) (e : v = .ref m) (h1 : (m, matchObj (.int (b.1 : Nat) x) (.int (b.2.1 : Nat) y) (.int (b.2.2 : Nat) z) dx) ∈ led) (h2 : (dx, emptyD) ∈ led)
theorem mat_at {mtl ml : List (Addr × Obj)} {mv : List Value} {BL : List (Nat × Nat × Nat)} {rm : Addr} {k : Nat} (hM : MatsIn mtl mv BL) (hD : DxIn mtl) (hm : ∀ p ∈ mtl, p ∈ (rm, PySem.W.listOf mv.toArray k) :: ml) {i : Nat} (hi : i < BL.length) : ∃ b v, BL[i]? = some b ∧ mv[i]? = some v ∧ MatI ml v b := by
  obtain ⟨b, m, x, y, z, dx, e1, e2, e3⟩ := hM.get hi
  have h2 := hD _ e3 dx rfl
  refine ⟨b, _, e1, e2, m, x, y, z, dx, rfl, ?_, ?_⟩
  · rcases List.mem_cons.mp (hm _ e3) with e | h
    · cases congrArg (fun p => p.2.cls) e
    · exact h
  · rcases List.mem_cons.mp (hm _ h2) with e | h
    · have e := congrArg (fun p : Addr × Obj => p.2.cls) e
      injection e with e
      exact absurd e (by decide)
    · exact h
theorem pk4 {B : SL} {r : Addr × (Obj → Prop)} {L : SL} : Pick ((L ++ [r]) ++ B) (r :: (L ++ B)) := .perm (by rw [List.append_assoc, List.singleton_append]; exact List.perm_middle)
theorem blocks_ok (f g : List Nat) (h : f.length = 8) (h' : g.length = 8) : okB 0 0 (blocksM 9 f g 0 0 ++ [(8, 8, 0)]) := by
  rw [← blk_is h h']
  obtain ⟨h1, h2⟩ := blk_ok (f := f) (g := g) 8 0 8 0 8 (by omega) (by omega) (by omega) (by omega) (by omega)
  refine okB_of h2 (fun b hb => ?_) (by omega) (by omega)
  obtain ⟨m, _⟩ := h1 b hb
  have c1 := m.a1; have c3 := m.b1
  omega
theorem mem_le_sum : ∀ {ps : List (List Nat)} {p : List Nat}, p ∈ ps → p.length ≤ (ps.map List.length).sum
  | q :: ps, p, h => by
    rw [List.map_cons, List.sum_cons]
    rcases List.mem_cons.mp h with rfl | h
    · exact Nat.le_add_right _ _
    · exact Nat.le_trans (mem_le_sum h) (Nat.le_add_left _ _)
theorem join_new {h h' : Heap} {ja jp : Addr} {pv : List Value} {ps : List (List Nat)} {bo : List Nat} {t : Tok} {k : Nat} (hn : NewIn h h' [(ja, { cls := .type "tuple", data := .seq #[.ref jp, .str ⟨bo.toArray⟩ t] }), (jp, PySem.W.listOf pv.toArray k)]) (hJ : StrsOf pv ps) (hp : ∀ p ∈ ps, p.length ≤ 16) (hb : bo.length ≤ big) : NewC h h' [(ja, oTup [.val (.ref jp), sx bo]), (jp, oLst (ps.map sx))] := by
  have h1 := hn _ (.head _)
  have h2 := hn _ (.tail _ (.head _))
  refine ⟨fun p hp' => ?_, List.nodup_cons.mpr ⟨fun hm => ?_, List.pairwise_singleton _ _⟩⟩
  · rcases List.mem_cons.mp hp' with rfl | hp'
    · exact ⟨h1.1, _, h1.2, [.ref jp, .str ⟨bo.toArray⟩ t], ⟨rfl, ⟨by rw [mk_len]; exact hb, t, rfl⟩, trivial⟩, rfl⟩
    · rw [List.mem_singleton.mp hp']
      exact ⟨h2.1, _, h2.2, pv, k, sx_of hJ hp, rfl⟩
  · have e : ja = jp := List.mem_singleton.mp hm
    have q := h1.2
    dsimp only at q
    rw [e, h2.2] at q
    have q := congrArg Obj.cls (Option.some.inj q)
    injection q with q
    exact absurd q (by decide)
noncomputable def n2 (ja jp c1 c2 c3 : Addr) (ps : List (List Nat)) (bo : List Nat) : SL := (ja, oTup [.val (.ref jp), sx bo]) :: (jp, oLst (ps.map sx)) :: nC c1 c2 c3
noncomputable def nD0 (st jp c1 c2 c3 : Addr) (ps : List (List Nat)) : SL := [(c1, oCell0), (c2, oCell (.val (.ref st))), (c3, oCell (.val (.ref jp))), (jp, oLst (ps.map sx)), (st, oLst [.txt "a star of the law's own"])]
noncomputable def nD (st jp c1 c2 c3 : Addr) (ps : List (List Nat)) : SL := [(c1, oCellU), (c2, oCell (.val (.ref st))), (c3, oCell (.val (.ref jp))), (jp, oLst (ps.map sx)), (st, oLst [.txt "a star of the law's own"])]
theorem glob_is {F : List Nat} {ps : List (List Nat)} (hFs : F = okSigns) (jc : ∀ p ∈ ps, ∀ c ∈ p, c ∈ F) (jm : midOk ps) : transM (joinL [42, 42] ps) = partsP ps := by
  have := tr_glob ps [] (fun p hp c hc h => by have := hFs ▸ jc p hp c hc; rw [h] at this; exact absurd this (by decide)) jm (.inr (.inl (by simp)))
  rw [List.nil_append] at this
  exact this
noncomputable def nE (rp st jp c1 c2 c3 : Addr) (ps : List (List Nat)) : SL := [(c1, oCell (.val (.ref rp))), (c2, oCell (.val (.ref st))), (c3, oCell (.val (.ref jp))), (jp, oLst (ps.map sx)), (st, oLst [.txt "a star of the law's own"])]
noncomputable def bN (st : Addr) (ps : List (List Nat)) (j : Nat) : List SV := (((partsP ps).take j).filter fun x => x.isNone).map fun _ => .val (.ref st)
theorem bN_t {st : Addr} {ps : List (List Nat)} {j : Nat} (h : (partsP ps)[j]? = some none) : bN st ps (j + 1) = bN st ps j ++ [.val (.ref st)] := by
  unfold bN; rw [take_succ_of h, List.filter_append, List.map_append]; rfl
theorem bN_f {st : Addr} {ps : List (List Nat)} {j : Nat} {z : List Nat} (h : (partsP ps)[j]? = some (some z)) : bN st ps (j + 1) = bN st ps j := by
  unfold bN; rw [take_succ_of h, List.filter_append, List.map_append]; exact List.append_nil _
theorem bN_len {st : Addr} {ps : List (List Nat)} : (bN st ps (partsP ps).length).length = ((partsP ps).filter fun x => x.isNone).length := by
  unfold bN; rw [List.take_length, List.length_map]
noncomputable def txs (F G bo : List Nat) : List Str := [⟨F.toArray⟩, ⟨G.toArray⟩, ⟨bo.toArray⟩, Txt.slice ⟨F.toArray⟩ (some 1) none, Txt.slice ⟨G.toArray⟩ none (some (-1)), (⟨F.toArray⟩ : Str) ++ ⟨G.toArray⟩, ""]
theorem txs_len {F G bo : List Nat} (hF : (Str.mk F.toArray).length = 8) (hG : (Str.mk G.toArray).length = 8) (hb : bo.length ≤ 16) : ∀ x ∈ txs F G bo, x.length ≤ 16 := by
  have hsF : (Txt.slice ⟨F.toArray⟩ (some 1) none).length ≤ 8 := hF ▸ Txt.length_slice_le _ _ _
  have hsG : (Txt.slice ⟨G.toArray⟩ none (some (-1))).length ≤ 8 := hG ▸ Txt.length_slice_le _ _ _
  have hB := mk_len bo
  have hFG := Str.length_append (Str.mk F.toArray) (Str.mk G.toArray)
  intro x hx
  simp only [txs, List.mem_cons, List.not_mem_nil, or_false] at hx
  rcases hx with rfl | rfl | rfl | rfl | rfl | rfl | rfl
  · omega
  · omega
  · omega
  · omega
  · omega
  · omega
  · decide
noncomputable def nG (rp st jp c1 c2 c3 : Addr) (ps : List (List Nat)) : SL := (rp, oLst ((partsP ps).map (pv st))) :: nE rp st jp c1 c2 c3 ps
noncomputable def bX (tx : List Str) (ps : List (List Nat)) (j : Nat) : List SV := ((tx.take j).map fun x => saidM x.cps.toList ps).map fun b => .val (.bool b)
theorem bX_succ {tx : List Str} {ps : List (List Nat)} {j : Nat} {x : Str} (h : tx[j]? = some x) : bX tx ps (j + 1) = bX tx ps j ++ [.val (.bool (saidM x.cps.toList ps))] := by
  unfold bX; rw [take_succ_of h, List.map_append, List.map_append]; rfl
theorem bX_all {tx : List Str} {ps : List (List Nat)} : bX tx ps (tx.map SV.txt).length = (tx.map fun x => saidM x.cps.toList ps).map fun b => .val (.bool b) := by
  unfold bX; rw [List.length_map, List.take_length]
noncomputable def YP (w : World) (h : Heap) : Prop := (Kx w.params).In h
set_option maxHeartbeats 80000000 in
theorem law_holds : PySem.Challenge.rw_ik0097_01.Holds := by
  w_on
  refine holds_law said ?_
  intro said9
  clear said9
  refine holds_open (q := vw) (loose := ls) (Xt := Xt) (XP := XL vw []) (Yf := Yf) (Ya := Ya) (YP := YP) (N := N) left (fun w s e => Frag.in_of (kAs_eq _) e) (fun w h h' x k => Frag.In.keeps x k) (fun s e => xl_of s (Bool.and_eq_true_iff.mp e).1) XL.keeps (by rfl) (by rfl) (by rfl) (fun s e => recFacts_of (Bool.and_eq_true_iff.mp e).2) (by rfl) (by first | assumption | decide +kernel) (by decide +kernel) ⟨rfl, rfl, rfl, rfl, rfl, by decide +kernel⟩ ?hw ?hc
  case hw => w_witness2
  case hc =>
    k_fill
    intro w s₀ s₁ mg mb G Y fa o pm cd doc dV kV ho hd hcd hD hmg hg args vals as hpre hlay hrd hwl hlo
    have hgens : s₁.gens = #[] := hg
    have X := (Ground.X G).1
    have V := (Ground.X G).2
    refine Ground.open G ?_
    intro T0 B0 D TE TW
    try (refine guard_noD D (by decide +kernel) ?_; clear D)
    obtain ⟨_, _, M⟩ := bmod_of_top T0
    have TA := at_of_top T0
    try (obtain ⟨_, _, he, B1⟩ := based_of_top T0 rfl hmg ho hd; have he' : cd = _ := he; subst he'; clear he)
    clear hmg
    wrow_args hpre hlay hrd hwl hlo
    all_goals (
      first | refine callC_kw (enter_call ?_) | refine enter_call ?_ | refine callC_kw (enter_callW ?_) | refine enter_callW ?_
      w_top on
      try refine codeAny_mono ?_ (fun _ _ g => GoodW.toG g)
      have K0 := below_caller (Top.heap T0)
      w_call any ho hd hcd hD T0 F1
      clear hd TA
      k_drop)
    all_goals (try k_fold)
    have KX : (Kx w.params).In s₁.heap := Y
    (rename Below callerA _ _ _ => B)
    (rename Top vw _ _ _ _ _ => T)
    have T2 : Top vw lsW (ExcName.means s₀.heap) mg mb s₁.heap := lw ▸ T
    have B2 : Below callerA s₁.heap [] s₁.heap := B
    (try (rename Flt.MathXP _ _ _ => z1; clear z1))
    (try (rename LooseAre _ _ _ => z1; clear z1))
    (try (rename Glob _ _ _ _ _ _ _ _ => z1; clear z1))
    (try (rename Tables _ _ _ _ => z1; clear z1))
    (try (rename TopE _ _ _ _ => z1; clear z1))
    (try (rename TopW _ _ _ => z1; clear z1))
    (try (rename BMod _ _ _ _ _ => z1; clear z1))
    (rename IntsAre _ _ => hInts)
    (rename Heap.IsList s₁.heap _ _ => hScr)
    rename_i o1 o2 o3 d1 d2 d3 N1 Y1
    rename_i ms hs5 hlay5 hL5 hr5 hl5 w5 w6 q us qa ra w1 r0 hr0 hc1 hc2 h1 tk1
    have hms : ms.length ≤ 63 := by omega
    have d1' : o1.data = .cell none := d1.trans (by kernel_rfl)
    have d2' : o2.data = .cell none := d2.trans (by kernel_rfl)
    have d3' : o3.data = .cell none := d3.trans (by kernel_rfl)
    have F2 := fr_as F1 (m' := fun (y : Str) => if y = "script" then some (.ref q) else none) (by intro y; kernel_rfl)
    clear d1 d2 d3 F1 Y1 hs5 hlay5 hL5 hr5 hl5 r0 w1 hr0 hD hcd ra hg B T G
    have hQ : ∀ h t m, Fr s₁.heap s₁.heap.objs.size h m → qk (.ret (.bool true)) { s₁ with heap := h, toks := t } := by
      intro h t m F49
      refine goodW_bool F49 hgens (raisesW_false ?_) ?_
      · wrow_none_raised
      · kc_post
    have hI : LstIn s₁.heap q (ms.map .num) := ⟨_, AllIs.ints hInts, hScr⟩
    refine (law_enter (P := fun h => LstIn h q (ms.map .num)) (c1 := s₁.heap.objs.size + 1 + 1 + 1) (c2 := s₁.heap.objs.size + 1 + 1) (c3 := s₁.heap.objs.size + 1) (x1 := "parts") (x2 := "star") (x3 := "pieces") (f := [("script", .val (.ref q))]) { A := _, E := ek, s := s₁, lo := s₁.heap.objs.size, fl := s₁.heap.objs.size, xf := fun _ => none, ql := _, fu := _, ccd := _, cl := _, hh := rfl, hk := rfl, hP := fun _ => ?hP, site := ⟨_, _, _, _, _, _, _, rfl, rfl, rfl, B2, KX, T2⟩ } ?_ ?_ ?_ hI ?_ hQ ?_)
    case hP => passes_own
    · rfl
    · show callerA.depth + 1 + 38 < recursionLimit; decide
    · show callerA.units + 3 + 3900 < cLine; decide
    · refine ⟨⟨_, F2, frr_of (f := [("script", .val (.ref q))]) ⟨⟨_, rfl, rfl⟩, trivial⟩⟩, ⟨[(s₁.heap.objs.size + 1 + 1 + 1, o1), (s₁.heap.objs.size + 1 + 1, o2), (s₁.heap.objs.size + 1, o3)], N1, ⟨rfl, d1', rfl, d2', rfl, d3', trivial⟩⟩, nd3 _, fun _ h => nomatch h⟩
    · clear hI hQ hScr hInts F2 N1 d1' d2' d3' B2 T2 KX hgens
      intro C c1 c2 c3 hcl hd hu hI hQ
      clear o1 o2 o3
      obtain ⟨us, hus, hq⟩ := hI
      refine g_set (.list (.v fun rw => ?_))
      refine g_set (.pur (fa := 324) (.cons (.v (.cons (.addL (.list (.v fun D1 => .sliceL rfl (.base hq hus) part_none part_int (zs := (ms.take 3).map SV.num) (fun _ h => take3_of' h) (by rw [List.length_map]; exact Nat.le_trans hms (by decide)) fun D2 => ⟨D1, D2, _, _, rfl, rfl, .tail _ (.head _), .head _, ?_, fun D => .nil (AllIs.two fun u v e1 e2 => ?_)⟩)))))) (by kernel_rfl) (by kernel_rfl))
      · exact len4 _
      cases e1; cases e2
      refine ⟨_, _, _, _, t_changed w rfl rfl rw D rowI (458 :: ms.take 3) rowI_octs (by rw [List.length_cons, List.length_take]; omega), by omega, by omega, fun h S => ⟨LstAt.own (.tail _ (.tail _ (.tail _ (.head _)))) _ S, LstAt.own (.head _) _ S⟩, fun h v h' S hr => ?_⟩
      obtain ⟨ot, ns, rfl, hn, hoc⟩ := hr
      refine ⟨.val (.ref ot), _, rfl, hn, ?_⟩
      refine g_to [("other", .val (.ref ot)), ("row", .val (.ref rw))] [(ot, oLst (ns.map .num)), (rw, oLst (rowI.map .num)), (c1, oCell0), (c2, oCell0), (c3, oCell0)] (.i [0, 4, 5, 6, 7] (by kernel_rfl)) ?_ (by kernel_rfl)
      refine g_swap (.cons (.pur (fa := 329) (.v (AllIs.one fun u e1 => ?_)) (by kernel_rfl) (by kernel_rfl)))
      cases e1
      refine ⟨_, _, _, _, t_coded w rfl rfl rw rowI rowI_octs, by omega, by omega, fun h S => LstAt.own (.tail _ (.head _)) _ S, fun h v h' S hr => ?_⟩
      obtain ⟨t1, rfl⟩ := hr
      refine ⟨sx (codedM rowI), [], ⟨by decide, _, rfl⟩, .nil, .cons (.pur (fa := 329) (.v (AllIs.one fun u e1 => ?_)) (by kernel_rfl) (by kernel_rfl))⟩
      cases e1
      refine ⟨_, _, _, _, t_coded w rfl rfl ot ns hoc, by omega, by omega, fun h S => LstAt.own (.head _) _ S, fun h v h' S hr => ?_⟩
      obtain ⟨t2, rfl⟩ := hr
      refine ⟨sx (codedM ns), [], ⟨(by decide : 8 ≤ big), _, rfl⟩, .nil, .nil ?_⟩
      have hcs : ∀ ns : List Int, ∀ z ∈ codedM ns, z < 256 := coded_small
      refine g_to (fL1 rw ot ns) (nL1 rw ot c1 c2 c3 ns) (.i [0, 1, 2, 3, 4] (by kernel_rfl)) ?_ (by kernel_rfl)
      refine g_ifT (tst_neSame (.comp (cl := []) (g := []) (.list (.v fun D => .u _ 2 _ _ (bL1 ns) (fun _ => nL1 rw ot c1 c2 c3 ns) (.own (as := [.val (.ref rw), .val (.ref ot)]) (fun _ h => h) (by show 2 ≤ big; decide)) .rfl rfl (fun j C' kp' hj T => ?_) fun D2 => .list (.v fun D3 => ⟨D2, D3, .list ([codedM rowI, codedM ns].map strD), rfl, rfl, ?_, ?_, ?_⟩))) (by with_unfolding_all rfl)) (by omega)) (fun h => h.elim) (fun _ => g_seq ?_)
      · obtain ⟨r0, ns0, e0, hm0, ho0, hb0⟩ := rowI_at (rw := rw) (ot := ot) (c1 := c1) (c2 := c2) (c3 := c3) hoc hj
        have O := T.orc (nL1 rw ot c1 c2 c3 ns) trivial
        rw [e0] at O
        have hA : C'.A = C.A := T.hA
        refine .join (.comp (cl := []) (g := []) (.pur (fa := 92) (.cons (.bytesOf (ns := ns0) (evc O) (.own hm0) (fun n hn => ho0.2 n hn) (by rw [ho0.1]; decide) fun t => .nil (AllIs.one fun u e1 => ?_))) (by kernel_rfl) (by kernel_rfl)) (by with_unfolding_all rfl))
        cases e1
        refine ⟨_, _, _, _, t_b64 w rfl rfl (byteArr ns0) t ns0 (KBa.ints_make fun n hn => ho0.2 n hn) ho0, by rw [hA]; omega, by rw [hA]; omega, fun _ _ => trivial, fun h v h' S hr => ?_⟩
        obtain ⟨b', t', rfl, hb'⟩ := hr
        refine ⟨.val (.bytes b' t'), [], rfl, .nil, .u _ 8 _ _ (bL2 ns0) (fun _ => nL1 rw ot c1 c2 c3 ns) (.bytes hb' (by show 8 ≤ big; decide)) .rfl rfl (fun i C2 kp2 hi T2 => ?_) (fun D4 => ⟨D4, (codedM ns0).map fun z => [z], rfl, .own (.head _), (by show 8 ≤ big; decide), (by show 8 ≤ big; decide), .drop (l := [_]), ?_⟩)⟩
        · have O2 := T2.orc (nL1 rw ot c1 c2 c3 ns) trivial
          have hz : (codedM ns0).getD i 0 < 256 := by
            rw [List.getD_eq_getElem?_getD, List.getElem?_eq_getElem (show i < (codedM ns0).length from hi)]
            exact coded_small ns0 _ (List.getElem_mem _)
          rw [show ((codedM ns0).map fun z : Nat => (z : Int)).getD i 0 = (((codedM ns0).getD i 0 : Nat) : Int) by rw [List.getD_eq_getElem?_getD, List.getD_eq_getElem?_getD, List.getElem?_map]; cases (codedM ns0)[i]? <;> rfl] at O2
          exact Ev.x (ev_chr (evc O2) hz) ⟨.rfl, bL2_succ hi⟩
        · rw [show (Str.ofString "").cps.toList = [] from rfl, joinL_ones]; exact hb0
      · intro h S
        exact ⟨rd_strs (xs := [codedM rowI, codedM ns]) (.tail _ (.tail _ (.head _))) S, rd_strs (xs := [codedM rowI, codedM ns]) (.head _) S⟩
      · exact shaped_strs fun x hx z hz => by
          rcases List.mem_cons.mp hx with rfl | hx
          · exact Nat.lt_trans (coded_small _ z hz) (by decide)
          · rw [List.mem_singleton.mp hx] at hz
            exact Nat.lt_trans (coded_small _ z hz) (by decide)
      · exact .drop (l := [_, _, _])
      have hF8 : (codedM rowI).length = 8 := rfl
      have hG8 : (codedM ns).length = 8 := rfl
      have hFs : codedM rowI = okSigns := by decide +kernel
      have hG256 := coded_small ns
      refine g_to [("second", sx (codedM ns)), ("first", sx (codedM rowI))] (nC c1 c2 c3) (.i [2, 3, 4] (by kernel_rfl)) ?_ (by kernel_rfl)
      generalize codedM rowI = F at *
      generalize codedM ns = G at *
      clear hq hus hn hoc
      have hFl : (Str.mk F.toArray).length = 8 := by rw [mk_len, hF8]
      have hGl : (Str.mk G.toArray).length = 8 := by rw [mk_len, hG8]
      have hbl := blocks_len F G hF8 hG8
      refine g_set (.addL (.pur (fa := 343) (.v ?_) (by kernel_rfl) (by kernel_rfl)))
      refine AllIs.four fun u v z y ⟨_, u1, e1⟩ ⟨_, u2, e2⟩ ⟨u3, e3⟩ ⟨u4, e4⟩ => ?_
      subst e1 e2 e3 e4
      refine ⟨_, _, _, _, t_blocks w rfl rfl 9 ⟨F.toArray⟩ ⟨G.toArray⟩ 0 0 _ _ _ _ (by omega) (by omega) (by omega) (by omega) (by omega), by omega, by omega, fun _ _ => trivial, fun h v h' S hr => ?_⟩
      obtain ⟨rb, bv, btl, bk, rfl, hnb, hTb⟩ := hr
      obtain ⟨tl, hc, hm⟩ := hnb.led
      have hT := (hTb.more hm).tail
      refine ⟨.val (.ref rb), _, rfl, hc, .to ((rb, vL bv) :: (oEqs tl ++ nC c1 c2 c3)) (.head fun _ => oLst_eq) ?_⟩
      have hbv := hT.length
      refine .list (.cons (.tuple (.v fun T => .nil fun D => ⟨rb, D, bv.map .val, [.val (.ref T)], rfl, rfl, .tail _ (.tail _ (.head _)), .head _, ?_, fun bD => ?_⟩)))
      · rw [List.length_map, hbv]; exact Nat.le_trans (Nat.succ_le_succ hbl) (by decide)
      refine g_to (("blocks", .val (.ref bD)) :: fL3 F G) (nB c1 c2 c3 bD T (bv ++ [.ref T]) tl) (.trans (b := (bD, oLst (bv.map .val ++ [.val (.ref T)])) :: (T, o3 (8, 8, 0)) :: (oEqs tl ++ nC c1 c2 c3)) (by unfold nB vL; rw [List.map_append]; exact .rfl) (.t (l' := [(bD, oLst (bv.map .val ++ [.val (.ref T)])), (T, o3 (8, 8, 0))]) (l := [(bD, oLst (bv.map .val ++ [.val (.ref T)])), (D, oLst [.val (.ref T)]), (T, oTup [.num 8, .num 8, .num 0]), (rb, vL bv)]) (.i [0, 2] (by kernel_rfl)))) ?_ (by kernel_rfl)
      have hTA : ∀ {f h}, C.St [] f (nB c1 c2 c3 bD T (bv ++ [.ref T]) tl) h → TupsAt h (bv ++ [.ref T]) (blocksM 9 F G 0 0 ++ [(8, 8, 0)]) := tups_st hT
      obtain ⟨ps, bo, hps, hbo, jc, jl, jn, jne, jb, jm⟩ := joined hF8 hG8
      have hokB := blocks_ok F G hF8 hG8
      have hp16 : ∀ p ∈ ps, p.length ≤ 16 := fun p hp => Nat.le_trans (mem_le_sum hp) (Nat.le_trans jl (by decide))
      generalize hBL : blocksM 9 F G 0 0 ++ [(8, 8, 0)] = BL at hTA hps hbo hokB
      generalize hbw : bv ++ [Value.ref T] = bw at hTA
      refine g_set (.meth0 (c := 313) (fa := 274) (.pur (fa := 313) (.v ?_) (by kernel_rfl) (by kernel_rfl)) (by kernel_rfl))
      refine AllIs.three fun u v z e1 ⟨_, u2, e2⟩ ⟨_, u3, e3⟩ => ?_
      cases e1
      subst e2 e3
      refine ⟨_, _, _, _, t_sm w rfl rfl ⟨F.toArray⟩ ⟨G.toArray⟩ u2 u3 hFl hGl, by omega, by omega, fun _ _ => trivial, fun h v h' S hr => ?_⟩
      obtain ⟨x, d, b2, jk, es, k, oE, oJ, Tb, rfl, hn, hS⟩ := hr
      have hnd : [x, d, b2, jk].Nodup := by
        have := hn.nd
        rw [List.map_append, List.nodup_append] at this
        exact this.1
      refine ⟨.val (.ref x), _, rfl, hn, x, d, _, rfl, .head _, .tail _ (.head _), ?_, _, rowsN (Str.mk G.toArray).cps.toList (Str.mk G.toArray).length Tb ++ nB c1 c2 c3 bD T bw tl, _, _, _, _, t_gmb w rfl rfl ⟨F.toArray⟩ ⟨G.toArray⟩ x d b2 jk es k oE oJ Tb hS hnd hFl hGl, by omega, by omega, by rw [List.append_assoc]; exact .rfl, fun h g S hs hk r hr => ?_, fun h v h' hr => ?_⟩
      · rintro o rfl
        obtain ⟨pp, hA⟩ := hS.pp
        exact ⟨es, k, rfl, hA.no (by kernel_rfl)⟩
      · have hm' : (r.2, oLst (occS (Str.mk G.toArray).cps.toList (Str.mk G.toArray).length r.1)) ∈ rowsN (Str.mk G.toArray).cps.toList (Str.mk G.toArray).length Tb ++ nB c1 c2 c3 bD T bw tl := List.mem_append_left _ (List.mem_map.mpr ⟨r, hr, rfl⟩)
        obtain ⟨o, g1, ⟨vs, j, has, rfl⟩, _⟩ := S.at' hm'
        exact ⟨vs, has, _, hk _ hm' _ g1, rfl, _, rfl⟩
      obtain ⟨rm, mv, mtl, mk, rfl, hnm, hM, hDx⟩ := hr
      obtain ⟨ml, hcm, hmm⟩ := hnm.led
      refine ⟨.val (.ref rm), _, rfl, hcm, ?_⟩
      refine g_to (("told", .val (.ref rm)) :: ("blocks", .val (.ref bD)) :: fL3 F G) ((rm, vL mv) :: (oEqs ml ++ nB c1 c2 c3 bD T bw tl)) ?_ ?_ (by kernel_rfl)
      · refine .trans (b := (rm, oEq (PySem.W.listOf mv.toArray mk)) :: (oEqs ml ++ nB c1 c2 c3 bD T bw tl)) (.head fun _ => oLst_eq) (.of_sub ?_)
        exact ((List.sublist_append_right _ _).append_left _).cons_cons _
      rw [show (Str.mk F.toArray).cps.toList = F from rfl, show (Str.mk G.toArray).cps.toList = G from rfl, hBL] at hM
      have hML := hM.length
      have hB5 : BL.length ≤ 6 := by rw [← hBL, List.length_append]; exact Nat.succ_le_succ hbl
      refine g_ifT (tst_neSame (.comp (cl := []) (g := []) (.v ⟨fun i (a : List Addr) => a.length = i, _, _, _, _, fun _ a => (a.map Value.ref).map .val, fun _ a => tupN a BL ++ (oEqs ml ++ nB c1 c2 c3 bD T bw tl), [], rfl, .own (as := mv.map .val) (fun _ h => h) ?_, .rfl, rfl, fun i a C' kp' hi hj T_1 => ?_, fun a hj D => .v ⟨D, bD, .list (BL.map tupD), rfl, rfl, fun h S => ⟨?_, ?_⟩, shaped_tups _, ?_⟩⟩) (by with_unfolding_all rfl)) (by omega)) (fun h => h.elim) (fun _ => g_seq ?_)
      · rw [List.length_map, hML]; exact Nat.le_trans hB5 (by decide)
      · have hA : C'.A = C.A := T_1.hA
        rw [List.length_map, hML] at hi
        obtain ⟨b, v, hb, hv, m, x1, x2, x3, dx, rfl, hm1, hm2⟩ := mat_at hM hDx hmm hi
        have O := T_1.orc (tupN a BL ++ (oEqs ml ++ nB c1 c2 c3 bD T bw tl)) trivial
        rw [show ((mv.map SV.val)[i]?).getD (.val .none) = .val (.ref m) by rw [List.getElem?_map, hv]; rfl] at O
        have q1 : (m, oEq (matchObj (.int (b.1 : Nat) x1) (.int (b.2.1 : Nat) x2) (.int (b.2.2 : Nat) x3) dx)) ∈ tupN a BL ++ (oEqs ml ++ nB c1 c2 c3 bD T bw tl) := List.mem_append_right _ (List.mem_append_left _ (mem_oEqs hm1))
        have q2 : (dx, oEq emptyD) ∈ tupN a BL ++ (oEqs ml ++ nB c1 c2 c3 bD T bw tl) := List.mem_append_right _ (List.mem_append_left _ (mem_oEqs hm2))
        have d1 : C'.A.depth + 4 < recursionLimit := by rw [hA]; omega
        have d2 : C'.A.units + 71 < cLine := by rw [hA]; omega
        refine .tuple (.cons (.getM (a := .num (b.1 : Nat)) (gr_a w) (evc O) q1 q2 d1 d2 rfl ⟨_, rfl⟩ (.cons (.getM (a := .num (b.2.1 : Nat)) (gr_b w) (evc O) q1 q2 d1 d2 rfl ⟨_, rfl⟩ (.cons (.getM (a := .num (b.2.2 : Nat)) (gr_size w) (evc O) q1 q2 d1 d2 rfl ⟨_, rfl⟩ (.nil fun D => ⟨a ++ [D], by rw [List.length_append, hj]; rfl, ?_, by rw [List.map_append, List.map_append]; rfl⟩)))))))
        rw [tupN_snoc (by rw [hj]; exact hb)]
        exact pk4
      · exact rd_tups (vs := a.map .ref) (.tail _ (.head _)) (tupN_at (hj.trans (by rw [List.length_map, hML])) fun p hp => (by
          obtain ⟨o, h1, h2, _⟩ := S.at' (a := p.1) (P := p.2) (.tail _ (.tail _ (List.mem_append_left _ hp)))
          exact ⟨o, h1, h2⟩)) S
      · exact rd_tups (vs := bw) (.tail _ (.tail _ (List.mem_append_right _ (List.mem_append_right _ (.head _))))) (hTA (S.pick (.of_sub (((List.sublist_append_right _ _).trans (List.sublist_append_right _ _)).trans ((List.sublist_cons_self _ _).trans (List.sublist_cons_self _ _)))))) S
      · exact .of_sub (((List.sublist_append_right _ _).trans (List.sublist_cons_self _ _)).cons_cons _)
      refine g_to (("blocks", .val (.ref bD)) :: fL3 F G) (nB c1 c2 c3 bD T bw tl) (.of_sub ((List.sublist_append_right _ _).trans (List.sublist_cons_self _ _))) ?_ (by kernel_rfl)
      refine g_part (.pur (fa := 350) (.v ?_) (by kernel_rfl) (by kernel_rfl))
      refine AllIs.three fun u v z ⟨_, u1, e1⟩ ⟨_, u2, e2⟩ e3 => ?_
      subst e1 e2
      cases e3
      refine ⟨_, _, _, _, t_joined w rfl rfl ⟨F.toArray⟩ ⟨G.toArray⟩ u1 u2 bD bw BL (by omega) (by omega) hokB (by omega), by omega, by omega, fun h S => ?_, fun h v h' S hr => ?_⟩
      · refine ⟨?_, hTA S⟩
        obtain ⟨o, g1, ho, _⟩ := S.at' (a := bD) (P := vL bw) (.head _)
        obtain ⟨k, rfl⟩ := oLst_vals ho
        exact ⟨_, g1, rfl, _, rfl⟩
      obtain ⟨ja, jp, jv, jt, jk, rfl, hnj, hJ⟩ := hr
      rw [show (Str.mk F.toArray).cps.toList = F from rfl, show (Str.mk G.toArray).cps.toList = G from rfl] at hnj hJ
      rw [← hps] at hJ
      rw [← hbo] at hnj
      refine ⟨.val (.ref ja), [(ja, oTup [.val (.ref jp), sx bo]), (jp, oLst (ps.map sx))], rfl, join_new hnj hJ hp16 (Nat.le_trans jb (by decide)), .to (n2 ja jp c1 c2 c3 ps bo) ?_ (gt_gas (.head _) (fun _ h => h) (ga_cell (c := c3) (i := 4) (P := oCell0) (by rw [hcl]; rfl) rfl (fun _ => oCell0.is) (ga_name ?_)))⟩
      · exact .of_sub ((List.sublist_append_right _ _).trans ((List.sublist_cons_self _ _).trans (List.sublist_cons_self _ _)) |>.cons_cons _ |>.cons_cons _)
      refine g_setC (c := c2) (i := 4) (P := oCell0) (by rw [hcl]; rfl) (fun _ => oCell0.is) (.list (.v (hp := by exact ⟨by decide, trivial⟩) fun st => ⟨rfl, ?_⟩))
      refine g_to (("both", sx bo) :: fL3 F G) (nD st jp c1 c2 c3 ps) (.trans (b := nD0 st jp c1 c2 c3 ps) (.head fun _ => oCell0.is) (.i [3, 4, 5, 2, 0] (by kernel_rfl))) ?_ (by kernel_rfl)
      have hpl := joinL_len [42, 42] ps
      have hpl' : (joinL [42, 42] ps).length ≤ 22 := Nat.le_trans hpl (by rw [show [42, 42].length = 2 from rfl]; omega)
      have hok : ∀ c ∈ joinL [42, 42] ps, c = 42 ∨ c ∈ okSigns := fun c hc => (joinL_mem _ _ c hc).elim (fun h => .inl (by simpa using h)) fun ⟨p, hp, h⟩ => .inr (hFs ▸ jc p hp c h)
      have htr : transM (joinL [42, 42] ps) = partsP ps := glob_is hFs jc jm
      refine g_setC (c := c1) (i := 1) (P := oCellU) (by rw [hcl]; rfl) (fun _ h => h) (.pur (fa := 62) (.cons (.join (Ev.x (ev_cell (c := c3) (a := .val (.ref jp)) (by rw [hcl]; rfl) (.tail _ (.tail _ (.head _))) rfl) ⟨jp, ps, rfl, .own (.tail _ (.tail _ (.tail _ (.head _)))), ?_, ?_, .cons (Ev.x (ev_cell (c := c2) (a := .val (.ref st)) (by rw [hcl]; rfl) (.tail _ (.head _)) rfl) (.v (hp := by exact ⟨by decide, trivial⟩) ?_))⟩))) (by kernel_rfl) (by kernel_rfl))
      · show (ps.map List.length).sum + ps.length * 2 ≤ big
        unfold big; omega
      · exact Nat.le_trans hpl' (by decide)
      refine AllIs.three fun u v z ⟨_, u1, e1⟩ e2 ⟨_, u3, e3⟩ => ?_
      subst e1 e3
      cases e2
      refine ⟨_, _, _, _, t_trans w rfl rfl ⟨(joinL [42, 42] ps).toArray⟩ _ _ _ st (by rw [mk_len]; omega) hok, by omega, by omega, fun _ _ => trivial, fun h v h' S hr => ?_⟩
      obtain ⟨rp, qv, qk, rfl, hnp, hP⟩ := hr
      rw [show (Str.mk (joinL [42, 42] ps).toArray).cps.toList = joinL [42, 42] ps from rfl, htr] at hP
      refine ⟨.val (.ref rp), [(rp, oLst ((partsP ps).map (pv st)))], rfl, .one (hnp _ (.head _)).1 (hnp _ (.head _)).2 ⟨qv, qk, of_parts hP fun y hy => Nat.le_trans (partsP_two ps y hy) (by decide), rfl⟩, rfl, ?_⟩
      refine g_to (("both", sx bo) :: fL3 F G) ((rp, oLst ((partsP ps).map (pv st))) :: nE rp st jp c1 c2 c3 ps) (.i [0, 1, 2, 3, 4, 5] (by kernel_rfl)) ?_ (by kernel_rfl)
      have hpp := partsP_len ps
      have hsn := partsP_stars ps jne
      have hps1 := List.length_pos_iff.mpr jne
      refine g_ifT (tst_neNum (i := ((ps.length - 1 : Nat) : Int)) (j := (((ps.map sx).length : Nat) : Int) - 1) (.lenL (.compT (cl := [("star", c2)]) (g := [("star", .val (.ref st))]) (Ev.x (ev_cell (c := c1) (a := .val (.ref rp)) (by rw [hcl]; rfl) (.tail _ (.head _)) rfl) (.u _ _ _ _ (bN st ps) (fun _ => nE rp st jp c1 c2 c3 ps) (.own (as := (partsP ps).map (pv st)) (fun _ h => h) ?_) .rfl rfl (fun j C' kp' hj T_1 => ?_) (fun D => ⟨D, bN st ps ((partsP ps).map (pv st)).length, rfl, .own (.tail _ (.head _)), ?_, congrArg SV.num ?_, ?_, ?_⟩))) (by unfold CxU.env; rw [hcl]; with_unfolding_all rfl)))) (fun h => absurd (by rw [List.length_map]; omega) h) (fun _ => g_seq ?_)
      · rw [List.length_map]; unfold big; omega
      · rw [List.length_map] at hj
        obtain ⟨y, hy⟩ : ∃ y, (partsP ps)[j]? = some y := ⟨_, List.getElem?_eq_getElem hj⟩
        have O := T_1.orc (nE rp st jp c1 c2 c3 ps) ⟨⟨c2, rfl, by k_mem⟩, trivial⟩
        rw [show (((partsP ps).map (pv st))[j]?).getD (.val .none) = pv st y by rw [List.getElem?_map, hy]; rfl] at O
        cases y with
        | none => exact ⟨True, tst_isSame (evc O) (evc O), fun _ => .o O ⟨.rfl, bN_t hy⟩, fun h => absurd trivial h⟩
        | some z => exact ⟨False, tst_isTxt (z := ⟨z.toArray⟩) (evc O) (evc O), fun h => h.elim, fun _ => ⟨.rfl, bN_f hy⟩⟩
      · rw [List.length_map, bN_len, hsn]; omega
      · rw [List.length_map, bN_len, hsn]
      · exact ev_sub (ev_lenL (as := ps.map sx) (ev_cell (c := c3) (a := .val (.ref jp)) (by rw [hcl]; rfl) (.tail _ (.tail _ (.tail _ (.tail _ (.head _))))) rfl) (.own (.tail _ (.tail _ (.tail _ (.tail _ (.tail _ (.head _))))))) (by rw [List.length_map]; omega)) ev_int
      · exact .of_sub ((List.sublist_cons_self _ _).cons_cons _)
      refine g_set (.list (.v (as := (txs F G bo).map .txt) (hp := by exact ⟨by decide, by rw [hFl, hGl]; decide, trivial⟩) fun tD => ?_))
      have htx : ∀ x ∈ txs F G bo, x.length ≤ 16 := txs_len hFl hGl jb
      have htl : (txs F G bo).length = 7 := rfl
      refine g_to [("texts", .val (.ref tD))] ((tD, oLst ((txs F G bo).map .txt)) :: nG rp st jp c1 c2 c3 ps) .rfl ?_ (by kernel_rfl)
      generalize txs F G bo = tx at htx htl
      have hb1 : tx.length ≤ big := by rw [htl]; decide
      refine g_retX (.eqSame (.comp (cl := [("star", c2), ("parts", c1)]) (g := [("parts", .val (.ref rp)), ("star", .val (.ref st))]) (.v (.u _ _ _ _ (bX tx ps) (fun _ => nG rp st jp c1 c2 c3 ps) (.own (as := tx.map .txt) (fun _ h => h) (by rw [List.length_map]; exact hb1)) .rfl rfl (fun i C' kp' hi T_1 => ?_) (fun D1 =>
        .comp (cl := [("pieces", c3)]) (g := [("pieces", .val (.ref jp))]) (.v (.u _ _ _ _ (bX tx ps) (fun _ => (D1, oLst (bX tx ps (tx.map SV.txt).length)) :: nG rp st jp c1 c2 c3 ps) (.own (as := tx.map .txt) (fun _ h => h) (by rw [List.length_map]; exact hb1)) .rfl rfl (fun i C' kp' hi T_1 => ?_) (fun D2 => ⟨D1, D2, .list ((tx.map fun x => saidM x.cps.toList ps).map PyData.bool), rfl, rfl, ?_, ?_, ?_⟩))) (by unfold CxU.env; rw [hcl]; with_unfolding_all rfl)))) (by unfold CxU.env; rw [hcl]; with_unfolding_all rfl)) (by omega) (fun v h t hv S => hQ v h t _ _ _ hv S))
      · have hA : C'.A = C.A := T_1.hA
        rw [List.length_map] at hi
        obtain ⟨x, hx⟩ : ∃ x, tx[i]? = some x := ⟨_, List.getElem?_eq_getElem hi⟩
        have O := T_1.orc (nG rp st jp c1 c2 c3 ps) ⟨⟨c1, rfl, by k_mem⟩, ⟨c2, rfl, by k_mem⟩, trivial⟩
        rw [show ((tx.map SV.txt)[i]?).getD (.val .none) = .txt x by rw [List.getElem?_map, hx]; rfl] at O
        refine .pur (fa := 355) (.cons (.o O (.cons (.o O (.cons (.o O (.nil ?_))))))) (by kernel_rfl) (by kernel_rfl)
        refine AllIs.three fun u v z e1 e2 ⟨_, t, e3⟩ => ?_
        cases e1; cases e2; subst e3
        exact ⟨_, _, _, _, t_fits w rfl rfl rp st (partsP ps) x t (htx x (List.mem_of_getElem? hx)) (by omega) (partsP_two ps), by rw [hA]; omega, by rw [hA]; omega, fun h S => LstAt.own (.head _) _ S, fun h v h' S hr => ⟨.val (.bool (saidM x.cps.toList ps)), [], hr.trans (by rw [fits_all _ _ jne]), .nil, .rfl, bX_succ hx⟩⟩
      · have hA : C'.A = C.A := T_1.hA
        rw [List.length_map] at hi
        obtain ⟨x, hx⟩ : ∃ x, tx[i]? = some x := ⟨_, List.getElem?_eq_getElem hi⟩
        have O := T_1.orc ((D1, oLst (bX tx ps (tx.map SV.txt).length)) :: nG rp st jp c1 c2 c3 ps) ⟨⟨c3, rfl, by k_mem⟩, trivial⟩
        rw [show ((tx.map SV.txt)[i]?).getD (.val .none) = .txt x by rw [List.getElem?_map, hx]; rfl] at O
        refine .pur (fa := 362) (.cons (.o O (.cons (.o O (.nil ?_))))) (by kernel_rfl) (by kernel_rfl)
        refine AllIs.two fun u z e1 ⟨_, t, e3⟩ => ?_
        cases e1; subst e3
        exact ⟨_, _, _, _, t_said w rfl rfl jp ps x t (htx x (List.mem_of_getElem? hx)) jne (by omega) hp16, by rw [hA]; omega, by rw [hA]; omega, fun h S => LstAt.own (by k_mem) _ S, fun h v h' S hr => ⟨.val (.bool (saidM x.cps.toList ps)), [], hr, .nil, .rfl, bX_succ hx⟩⟩
      · intro h S
        rw [bX_all] at S
        exact ⟨rd_bools (.tail _ (.tail _ (.head _))) S, rd_bools (.tail _ (.head _)) S⟩
      · exact shapedB _
      · exact .of_sub (((List.sublist_cons_self _ _).trans (List.sublist_cons_self _ _)).cons_cons _)
end
end Mine
theorem PySem.Challenge.cw_ik0097_01_holds : PySem.Challenge.rw_ik0097_01.Holds := by
  exact Mine.law_holds
