import PyProof.Rows.All
import Wide.All
import OpenK.AllK
import Wide.FinOn
import Lean
import PySem.Challenge.RW_ik0097_01
set_option Elab.async false
section
open PySem PySem.W PyProof.Rows
set_option Elab.async false
set_option maxRecDepth 100000
namespace Mine

-- the sign check of a doc string, by the list
def anyL (p : Nat → Bool) : List Nat → Bool
  | [] => false
  | x :: l => match p x with
    | true => true
    | false => anyL p l
theorem anyL_eq (p : Nat → Bool) : ∀ l : List Nat, l.any p = anyL p l
  | [] => rfl
  | x :: l => by
    rw [List.any_cons, anyL_eq p l]
    show _ = (match p x with | true => true | false => anyL p l)
    cases p x <;> rfl
theorem any_eq (a : Array Nat) (p : Nat → Bool) : Array.any a p 0 a.size = anyL p a.toList := by
  rw [← anyL_eq, Array.any_toList]

set_option maxHeartbeats 4000000 in
noncomputable def tnF : { f : Builtin // PySem.W.Fast.tw4202317264376624991 = f } := by
  apply Subtype.mk
  delta PySem.W.Fast.tw4202317264376624991
  simp (config := { zeta := false, beta := false, eta := false }) only [any_eq]
  exact rfl

def newCode : Nat := PySem.code "type.__new__"
noncomputable def TT (id : String) : Option Builtin :=
  match Nat.beq (PySem.W.Fast.tw13482112738370960269 id) 29827186395103491166823348853 with
  | true => some tnF.1
  | false => PySem.W.Fast.tw1115789885857029328.find (PySem.W.Fast.tw13482112738370960269 id)
theorem TT_eq : TT = treeTable := by
  rw [PySem.W.Fast.te14364793385576792824]
  funext id
  show (match Nat.beq (PySem.W.Fast.tw13482112738370960269 id) 29827186395103491166823348853 with
  | true => some tnF.1
  | false => PySem.W.Fast.tw1115789885857029328.find (PySem.W.Fast.tw13482112738370960269 id)) = PySem.W.Fast.tw1115789885857029328.find (PySem.W.Fast.tw13482112738370960269 id)
  cases h : Nat.beq (PySem.W.Fast.tw13482112738370960269 id) 29827186395103491166823348853 with
  | false => rfl
  | true =>
    have e := Nat.eq_of_beq_eq_true h
    rw [e, ← tnF.2]
    kernel_rfl
end Mine
end
section
open PySem PySem.W PyProof.Rows
set_option Elab.async false
set_option maxRecDepth 100000
namespace Mine

abbrev pw : Program := PySem.Challenge.pw_ik0097_01

def impRun (tb : String → Option Builtin) (p : Program) (w : World) : Nat → SharedT → Thread → Option SharedT
  | 0, _, _ => none
  | n + 1, s, t => match t.atExitBegin with
    | some l => match l with
      | [] => some s
      | _ :: _ => none
    | none => match stepT (denote tb) p w s t with
      | some (s', t') => impRun tb p w n s' t'
      | none => none
theorem impRun_of {tb : String → Option Builtin} {p : Program} {w : World} : ∀ {n : Nat} {s s' : SharedT} {t : Thread}, impRun tb p w n s t = some s' → importEnds tb p w n s.abs t = some s'.abs
  | 0, _, _, _, h => by cases h
  | n + 1, s, s', t, h => by
    unfold impRun at h
    unfold importEnds
    cases he : t.atExitBegin with
    | some l =>
      rw [he] at h
      cases l with
      | nil => cases h; rfl
      | cons => cases h
    | none =>
      rw [he] at h
      cases hs : stepT (denote tb) p w s t with
      | none => rw [hs] at h; cases h
      | some r => obtain ⟨s₂, t₂⟩ := r; rw [hs] at h; dsimp only; rw [stepT_spec hs]; exact impRun_of h
def topRunT (tb : String → Option Builtin) (p : Program) (w : World) (n₀ : Nat) (ann : Option Value) : Nat → SharedT → Thread → Option SharedT
  | 0, _, _ => none
  | n + 1, s, t => match through t with
    | true => some s
    | false => match stepOk n₀ ann t with
      | false => none
      | true => match stepT (denote tb) p w s t with
        | some (s', t') => topRunT tb p w n₀ ann n s' t'
        | none => none
theorem topRun_of {tb : String → Option Builtin} {p : Program} {w : World} {n₀ : Nat} {ann : Option Value} : ∀ {n : Nat} {s s' : SharedT} {t : Thread}, topRunT tb p w n₀ ann n s t = some s' → topRun tb p w n₀ ann n s.abs t = some s'.abs
  | 0, _, _, _, h => by cases h
  | n + 1, s, s', t, h => by
    unfold topRunT at h
    unfold topRun
    cases he : through t with
    | true => rw [he] at h; cases h; rfl
    | false =>
      rw [he] at h
      cases hk : stepOk n₀ ann t with
      | false => rw [hk] at h; cases h
      | true =>
        rw [hk] at h
        cases hs : stepT (denote tb) p w s t with
        | none => rw [hs] at h; cases h
        | some r => obtain ⟨s₂, t₂⟩ := r; rw [hs] at h; rw [stepT_spec hs]; exact topRun_of h

-- the same two by the library's quick words
noncomputable def impRunQ (p : Program) (w : World) : Nat → SharedT → Thread → Option SharedT
  | 0, _, _ => none
  | n + 1, s, t => match PySem.W.Fast.tw3805553451399329143 t with
    | some l => match l with
      | [] => some s
      | _ :: _ => none
    | none => match PySem.W.Fast.tw10156331382660048174 (PySem.W.Fast.tw11892475500146522536 TT) p w s t with
      | some (s', t') => impRunQ p w n s' t'
      | none => none
theorem impRunQ_eq {p : Program} {w : World} : ∀ (n : Nat) (s : SharedT) (t : Thread), impRunQ p w n s t = impRun treeTable p w n s t
  | 0, _, _ => rfl
  | n + 1, s, t => by
    unfold impRunQ impRun
    rw [← PySem.W.Fast.te3805553451399329143, ← PySem.W.Fast.te10156331382660048174, ← PySem.W.Fast.te11892475500146522536, TT_eq]
    split
    · rfl
    · split
      · exact impRunQ_eq n _ _
      · rfl
noncomputable def topRunQ (p : Program) (w : World) (n₀ : Nat) (ann : Option Value) : Nat → SharedT → Thread → Option SharedT
  | 0, _, _ => none
  | n + 1, s, t => match through t with
    | true => some s
    | false => match PySem.W.Fast.tw6613529449190102663 n₀ ann t with
      | false => none
      | true => match PySem.W.Fast.tw10156331382660048174 (PySem.W.Fast.tw11892475500146522536 TT) p w s t with
        | some (s', t') => topRunQ p w n₀ ann n s' t'
        | none => none
theorem topRunQ_eq {p : Program} {w : World} {n₀ : Nat} {ann : Option Value} : ∀ (n : Nat) (s : SharedT) (t : Thread), topRunQ p w n₀ ann n s t = topRunT treeTable p w n₀ ann n s t
  | 0, _, _ => rfl
  | n + 1, s, t => by
    unfold topRunQ topRunT
    rw [← PySem.W.Fast.te6613529449190102663, ← PySem.W.Fast.te10156331382660048174, ← PySem.W.Fast.te11892475500146522536, TT_eq]
    split
    · rfl
    · split
      · rfl
      · split
        · exact topRunQ_eq n _ _
        · rfl

-- a heap laid as a tree
def lay : List Obj → Nat → BT → Option BT
  | [], _, t => some t
  | o :: l, n, t => match ((t.ins n o).get n).isSome with
    | true => lay l (n + 1) (t.ins n o)
    | false => none
theorem lay_of (life : Life) : ∀ {l : List Obj} {n : Nat} {t t' : BT}, lay l n t = some t' → absHeap t' (n + l.length) life = ⟨(absHeap t n life).objs ++ l.toArray, life⟩
  | [], n, t, t', h => by
    cases h
    show absHeap t n life = ⟨(absHeap t n life).objs ++ #[], life⟩
    rw [Array.append_empty]
    rfl
  | o :: l, n, t, t', h => by
    unfold lay at h
    cases g : ((t.ins n o).get n).isSome with
    | false => rw [g] at h; cases h
    | true =>
      rw [g] at h
      have e := lay_of life h
      rw [absHeap_ins g] at e
      rw [List.length_cons, show n + (l.length + 1) = n + 1 + l.length by omega, e]
      show Heap.mk (((absHeap t n life).objs.push o) ++ l.toArray) life = _
      congr 1
      simp
def toT (s : Shared) : Option SharedT := match lay s.heap.objs.toList 0 .nil with
  | some t => some ⟨t, s.heap.objs.toList.length, s.heap.life, s.gens, s.drawn, s.toks, s.os⟩
  | none => none
theorem toT_abs {s : Shared} {t : SharedT} (h : toT s = some t) : t.abs = s := by
  unfold toT at h
  cases g : lay s.heap.objs.toList 0 .nil with
  | none => rw [g] at h; cases h
  | some b =>
    rw [g] at h
    cases h
    have e := lay_of s.heap.life g
    rw [Nat.zero_add] at e
    obtain ⟨⟨objs, life⟩, gens, drawn, toks, os⟩ := s
    show Shared.mk (absHeap b _ life) gens drawn toks os = _
    rw [e]
    congr 2
    show (absHeap .nil 0 life).objs ++ _ = _
    show (#[] : Array Obj) ++ _ = _
    simp

def N : Nat := 4200
def S00 (p : Program) : SharedT := ⟨.nil, 0, {}, #[], {}, 1, (start (opening p)).1.os⟩
theorem S00_abs (p : Program) : (S00 p).abs = (start (opening p)).1 := rfl

noncomputable def pipe (p : Program) (w : World) : Option (Shared × SharedT) :=
  match impRunQ (opening p) w N (S00 p) (PySem.W.Fast.tw1435165496053646825 (opening p)).2 with
  | some s1 => match PySem.W.Fast.tw14289696077712309145 p s1.abs with
    | some s0 => match toT s0 with
      | some t0 => match s0.heap.isNs mainGlobals && s0.gens.size == 0 with
        | true => match topRunQ p w s0.heap.objs.size (PySem.W.Fast.tw8920871248978507458 s0.heap mainGlobals "__annotations__") N t0 (topStub p) with
          | some s => some (s0, s)
          | none => none
        | false => none
      | none => none
    | none => none
  | none => none
theorem pipe_of {p : Program} {w : World} {s0 : Shared} {s : SharedT} (h : pipe p w = some (s0, s)) :
    fencedOpening treeTable p w N = some s0 ∧ (s0.heap.isNs mainGlobals && s0.gens.size == 0) = true ∧ topRun treeTable p w s0.heap.objs.size (s0.heap.nsMap mainGlobals "__annotations__") N s0 (topStub p) = some s.abs := by
  unfold pipe at h
  rw [← PySem.W.Fast.te1435165496053646825, ← PySem.W.Fast.te14289696077712309145, ← PySem.W.Fast.te8920871248978507458] at h
  split at h
  · rename_i s1 e1
    split at h
    · rename_i s0' e2
      split at h
      · rename_i t0 e3
        split at h
        · rename_i e4
          split at h
          · rename_i s' e5
            cases h
            rw [impRunQ_eq] at e1
            rw [topRunQ_eq] at e5
            refine ⟨?_, e4, ?_⟩
            · unfold fencedOpening
              have := impRun_of e1
              rw [S00_abs] at this
              rw [this]
              exact e2
            · have := topRun_of e5
              rw [toT_abs e3] at this
              exact this
          · cases h
        · cases h
      · cases h
    · cases h
  · cases h
end Mine
end
section
open PySem PySem.W PyProof.Rows
set_option Elab.async false
set_option maxRecDepth 100000
namespace Mine
def docLit : String := "\nSequenceMatcher is a flexible class for comparing pairs of sequences of\nany type, so long as the sequence elements are hashable.  The basic\nalgorithm predates, and is a little fancier than, an algorithm\npublished in the late 1980's by Ratcliff and Obershelp under the\nhyperbolic name \"gestalt pattern matching\".  The basic idea is to find\nthe longest contiguous matching subsequence that contains no \"junk\"\nelements (R-O doesn't address junk).  The same idea is then applied\nrecursively to the pieces of the sequences to the left and to the right\nof the matching subsequence.  This does not yield minimal edit\nsequences, but does tend to yield matches that \"look right\" to people.\n\nSequenceMatcher tries to compute a \"human-friendly diff\" between two\nsequences.  Unlike e.g. UNIX(tm) diff, the fundamental notion is the\nlongest *contiguous* & junk-free matching subsequence.  That's what\ncatches peoples' eyes.  The Windows(tm) windiff has another interesting\nnotion, pairing up elements that appear uniquely in each sequence.\nThat, and the method here, appear to yield more intuitive difference\nreports than does diff.  This method appears to be the least vulnerable\nto syncing up on blocks of \"junk lines\", though (like blank lines in\nordinary text files, or maybe \"<P>\" lines in HTML files).  That may be\nbecause this is the only method of the 3 that has a *concept* of\n\"junk\" <wink>.\n\nExample, comparing two strings, and considering blanks to be \"junk\":\n\n>>> s = SequenceMatcher(lambda x: x == \" \",\n...                     \"private Thread currentThread;\",\n...                     \"private volatile Thread currentThread;\")\n>>>\n\n.ratio() returns a float in [0, 1], measuring the \"similarity\" of the\nsequences.  As a rule of thumb, a .ratio() value over 0.6 means the\nsequences are close matches:\n\n>>> print(round(s.ratio(), 2))\n0.87\n>>>\n\nIf you're only interested in where the sequences match,\n.get_matching_blocks() is handy:\n\n>>> for block in s.get_matching_blocks():\n...     print(\"a[%d] and b[%d] match for %d elements\" % block)\na[0] and b[0] match for 8 elements\na[8] and b[17] match for 21 elements\na[29] and b[38] match for 0 elements\n\nNote that the last tuple returned by .get_matching_blocks() is always a\ndummy, (len(a), len(b), 0), and this is the only case in which the last\ntuple element (number of elements matched) is 0.\n\nIf you want to know how to change the first sequence into the second,\nuse .get_opcodes():\n\n>>> for opcode in s.get_opcodes():\n...     print(\"%6s a[%d:%d] b[%d:%d]\" % opcode)\n equal a[0:8] b[0:8]\ninsert a[8:8] b[8:17]\n equal a[8:29] b[17:38]\n\nSee the Differ class for a fancy human-friendly file differencer, which\nuses SequenceMatcher both to compare sequences of lines, and to compare\nsequences of characters within similar (near-matching) lines.\n\nSee also function get_close_matches() in this module, which shows how\nsimple code building on SequenceMatcher can be used to do useful work.\n\nTiming:  Basic R-O is cubic time worst case and quadratic time expected\ncase.  SequenceMatcher is quadratic time for the worst case and has\nexpected-case behavior dependent in a complicated way on how many\nelements the sequences have in common; best case time is linear.\n"
def docNs : List Nat := [10, 83, 101, 113, 117, 101, 110, 99, 101, 77, 97, 116, 99, 104, 101, 114, 32, 105, 115, 32, 97, 32, 102, 108, 101, 120, 105, 98, 108, 101, 32, 99, 108, 97, 115, 115, 32, 102, 111, 114, 32, 99, 111, 109, 112, 97, 114, 105, 110, 103, 32, 112, 97, 105, 114, 115, 32, 111, 102, 32, 115, 101, 113, 117, 101, 110, 99, 101, 115, 32, 111, 102, 10, 97, 110, 121, 32, 116, 121, 112, 101, 44, 32, 115, 111, 32, 108, 111, 110, 103, 32, 97, 115, 32, 116, 104, 101, 32, 115, 101, 113, 117, 101, 110, 99, 101, 32, 101, 108, 101, 109, 101, 110, 116, 115, 32, 97, 114, 101, 32, 104, 97, 115, 104, 97, 98, 108, 101, 46, 32, 32, 84, 104, 101, 32, 98, 97, 115, 105, 99, 10, 97, 108, 103, 111, 114, 105, 116, 104, 109, 32, 112, 114, 101, 100, 97, 116, 101, 115, 44, 32, 97, 110, 100, 32, 105, 115, 32, 97, 32, 108, 105, 116, 116, 108, 101, 32, 102, 97, 110, 99, 105, 101, 114, 32, 116, 104, 97, 110, 44, 32, 97, 110, 32, 97, 108, 103, 111, 114, 105, 116, 104, 109, 10, 112, 117, 98, 108, 105, 115, 104, 101, 100, 32, 105, 110, 32, 116, 104, 101, 32, 108, 97, 116, 101, 32, 49, 57, 56, 48, 39, 115, 32, 98, 121, 32, 82, 97, 116, 99, 108, 105, 102, 102, 32, 97, 110, 100, 32, 79, 98, 101, 114, 115, 104, 101, 108, 112, 32, 117, 110, 100, 101, 114, 32, 116, 104, 101, 10, 104, 121, 112, 101, 114, 98, 111, 108, 105, 99, 32, 110, 97, 109, 101, 32, 34, 103, 101, 115, 116, 97, 108, 116, 32, 112, 97, 116, 116, 101, 114, 110, 32, 109, 97, 116, 99, 104, 105, 110, 103, 34, 46, 32, 32, 84, 104, 101, 32, 98, 97, 115, 105, 99, 32, 105, 100, 101, 97, 32, 105, 115, 32, 116, 111, 32, 102, 105, 110, 100, 10, 116, 104, 101, 32, 108, 111, 110, 103, 101, 115, 116, 32, 99, 111, 110, 116, 105, 103, 117, 111, 117, 115, 32, 109, 97, 116, 99, 104, 105, 110, 103, 32, 115, 117, 98, 115, 101, 113, 117, 101, 110, 99, 101, 32, 116, 104, 97, 116, 32, 99, 111, 110, 116, 97, 105, 110, 115, 32, 110, 111, 32, 34, 106, 117, 110, 107, 34, 10, 101, 108, 101, 109, 101, 110, 116, 115, 32, 40, 82, 45, 79, 32, 100, 111, 101, 115, 110, 39, 116, 32, 97, 100, 100, 114, 101, 115, 115, 32, 106, 117, 110, 107, 41, 46, 32, 32, 84, 104, 101, 32, 115, 97, 109, 101, 32, 105, 100, 101, 97, 32, 105, 115, 32, 116, 104, 101, 110, 32, 97, 112, 112, 108, 105, 101, 100, 10, 114, 101, 99, 117, 114, 115, 105, 118, 101, 108, 121, 32, 116, 111, 32, 116, 104, 101, 32, 112, 105, 101, 99, 101, 115, 32, 111, 102, 32, 116, 104, 101, 32, 115, 101, 113, 117, 101, 110, 99, 101, 115, 32, 116, 111, 32, 116, 104, 101, 32, 108, 101, 102, 116, 32, 97, 110, 100, 32, 116, 111, 32, 116, 104, 101, 32, 114, 105, 103, 104, 116, 10, 111, 102, 32, 116, 104, 101, 32, 109, 97, 116, 99, 104, 105, 110, 103, 32, 115, 117, 98, 115, 101, 113, 117, 101, 110, 99, 101, 46, 32, 32, 84, 104, 105, 115, 32, 100, 111, 101, 115, 32, 110, 111, 116, 32, 121, 105, 101, 108, 100, 32, 109, 105, 110, 105, 109, 97, 108, 32, 101, 100, 105, 116, 10, 115, 101, 113, 117, 101, 110, 99, 101, 115, 44, 32, 98, 117, 116, 32, 100, 111, 101, 115, 32, 116, 101, 110, 100, 32, 116, 111, 32, 121, 105, 101, 108, 100, 32, 109, 97, 116, 99, 104, 101, 115, 32, 116, 104, 97, 116, 32, 34, 108, 111, 111, 107, 32, 114, 105, 103, 104, 116, 34, 32, 116, 111, 32, 112, 101, 111, 112, 108, 101, 46, 10, 10, 83, 101, 113, 117, 101, 110, 99, 101, 77, 97, 116, 99, 104, 101, 114, 32, 116, 114, 105, 101, 115, 32, 116, 111, 32, 99, 111, 109, 112, 117, 116, 101, 32, 97, 32, 34, 104, 117, 109, 97, 110, 45, 102, 114, 105, 101, 110, 100, 108, 121, 32, 100, 105, 102, 102, 34, 32, 98, 101, 116, 119, 101, 101, 110, 32, 116, 119, 111, 10, 115, 101, 113, 117, 101, 110, 99, 101, 115, 46, 32, 32, 85, 110, 108, 105, 107, 101, 32, 101, 46, 103, 46, 32, 85, 78, 73, 88, 40, 116, 109, 41, 32, 100, 105, 102, 102, 44, 32, 116, 104, 101, 32, 102, 117, 110, 100, 97, 109, 101, 110, 116, 97, 108, 32, 110, 111, 116, 105, 111, 110, 32, 105, 115, 32, 116, 104, 101, 10, 108, 111, 110, 103, 101, 115, 116, 32, 42, 99, 111, 110, 116, 105, 103, 117, 111, 117, 115, 42, 32, 38, 32, 106, 117, 110, 107, 45, 102, 114, 101, 101, 32, 109, 97, 116, 99, 104, 105, 110, 103, 32, 115, 117, 98, 115, 101, 113, 117, 101, 110, 99, 101, 46, 32, 32, 84, 104, 97, 116, 39, 115, 32, 119, 104, 97, 116, 10, 99, 97, 116, 99, 104, 101, 115, 32, 112, 101, 111, 112, 108, 101, 115, 39, 32, 101, 121, 101, 115, 46, 32, 32, 84, 104, 101, 32, 87, 105, 110, 100, 111, 119, 115, 40, 116, 109, 41, 32, 119, 105, 110, 100, 105, 102, 102, 32, 104, 97, 115, 32, 97, 110, 111, 116, 104, 101, 114, 32, 105, 110, 116, 101, 114, 101, 115, 116, 105, 110, 103, 10, 110, 111, 116, 105, 111, 110, 44, 32, 112, 97, 105, 114, 105, 110, 103, 32, 117, 112, 32, 101, 108, 101, 109, 101, 110, 116, 115, 32, 116, 104, 97, 116, 32, 97, 112, 112, 101, 97, 114, 32, 117, 110, 105, 113, 117, 101, 108, 121, 32, 105, 110, 32, 101, 97, 99, 104, 32, 115, 101, 113, 117, 101, 110, 99, 101, 46, 10, 84, 104, 97, 116, 44, 32, 97, 110, 100, 32, 116, 104, 101, 32, 109, 101, 116, 104, 111, 100, 32, 104, 101, 114, 101, 44, 32, 97, 112, 112, 101, 97, 114, 32, 116, 111, 32, 121, 105, 101, 108, 100, 32, 109, 111, 114, 101, 32, 105, 110, 116, 117, 105, 116, 105, 118, 101, 32, 100, 105, 102, 102, 101, 114, 101, 110, 99, 101, 10, 114, 101, 112, 111, 114, 116, 115, 32, 116, 104, 97, 110, 32, 100, 111, 101, 115, 32, 100, 105, 102, 102, 46, 32, 32, 84, 104, 105, 115, 32, 109, 101, 116, 104, 111, 100, 32, 97, 112, 112, 101, 97, 114, 115, 32, 116, 111, 32, 98, 101, 32, 116, 104, 101, 32, 108, 101, 97, 115, 116, 32, 118, 117, 108, 110, 101, 114, 97, 98, 108, 101, 10, 116, 111, 32, 115, 121, 110, 99, 105, 110, 103, 32, 117, 112, 32, 111, 110, 32, 98, 108, 111, 99, 107, 115, 32, 111, 102, 32, 34, 106, 117, 110, 107, 32, 108, 105, 110, 101, 115, 34, 44, 32, 116, 104, 111, 117, 103, 104, 32, 40, 108, 105, 107, 101, 32, 98, 108, 97, 110, 107, 32, 108, 105, 110, 101, 115, 32, 105, 110, 10, 111, 114, 100, 105, 110, 97, 114, 121, 32, 116, 101, 120, 116, 32, 102, 105, 108, 101, 115, 44, 32, 111, 114, 32, 109, 97, 121, 98, 101, 32, 34, 60, 80, 62, 34, 32, 108, 105, 110, 101, 115, 32, 105, 110, 32, 72, 84, 77, 76, 32, 102, 105, 108, 101, 115, 41, 46, 32, 32, 84, 104, 97, 116, 32, 109, 97, 121, 32, 98, 101, 10, 98, 101, 99, 97, 117, 115, 101, 32, 116, 104, 105, 115, 32, 105, 115, 32, 116, 104, 101, 32, 111, 110, 108, 121, 32, 109, 101, 116, 104, 111, 100, 32, 111, 102, 32, 116, 104, 101, 32, 51, 32, 116, 104, 97, 116, 32, 104, 97, 115, 32, 97, 32, 42, 99, 111, 110, 99, 101, 112, 116, 42, 32, 111, 102, 10, 34, 106, 117, 110, 107, 34, 32, 60, 119, 105, 110, 107, 62, 46, 10, 10, 69, 120, 97, 109, 112, 108, 101, 44, 32, 99, 111, 109, 112, 97, 114, 105, 110, 103, 32, 116, 119, 111, 32, 115, 116, 114, 105, 110, 103, 115, 44, 32, 97, 110, 100, 32, 99, 111, 110, 115, 105, 100, 101, 114, 105, 110, 103, 32, 98, 108, 97, 110, 107, 115, 32, 116, 111, 32, 98, 101, 32, 34, 106, 117, 110, 107, 34, 58, 10, 10, 62, 62, 62, 32, 115, 32, 61, 32, 83, 101, 113, 117, 101, 110, 99, 101, 77, 97, 116, 99, 104, 101, 114, 40, 108, 97, 109, 98, 100, 97, 32, 120, 58, 32, 120, 32, 61, 61, 32, 34, 32, 34, 44, 10, 46, 46, 46, 32, 32, 32, 32, 32, 32, 32, 32, 32, 32, 32, 32, 32, 32, 32, 32, 32, 32, 32, 32, 32, 34, 112, 114, 105, 118, 97, 116, 101, 32, 84, 104, 114, 101, 97, 100, 32, 99, 117, 114, 114, 101, 110, 116, 84, 104, 114, 101, 97, 100, 59, 34, 44, 10, 46, 46, 46, 32, 32, 32, 32, 32, 32, 32, 32, 32, 32, 32, 32, 32, 32, 32, 32, 32, 32, 32, 32, 32, 34, 112, 114, 105, 118, 97, 116, 101, 32, 118, 111, 108, 97, 116, 105, 108, 101, 32, 84, 104, 114, 101, 97, 100, 32, 99, 117, 114, 114, 101, 110, 116, 84, 104, 114, 101, 97, 100, 59, 34, 41, 10, 62, 62, 62, 10, 10, 46, 114, 97, 116, 105, 111, 40, 41, 32, 114, 101, 116, 117, 114, 110, 115, 32, 97, 32, 102, 108, 111, 97, 116, 32, 105, 110, 32, 91, 48, 44, 32, 49, 93, 44, 32, 109, 101, 97, 115, 117, 114, 105, 110, 103, 32, 116, 104, 101, 32, 34, 115, 105, 109, 105, 108, 97, 114, 105, 116, 121, 34, 32, 111, 102, 32, 116, 104, 101, 10, 115, 101, 113, 117, 101, 110, 99, 101, 115, 46, 32, 32, 65, 115, 32, 97, 32, 114, 117, 108, 101, 32, 111, 102, 32, 116, 104, 117, 109, 98, 44, 32, 97, 32, 46, 114, 97, 116, 105, 111, 40, 41, 32, 118, 97, 108, 117, 101, 32, 111, 118, 101, 114, 32, 48, 46, 54, 32, 109, 101, 97, 110, 115, 32, 116, 104, 101, 10, 115, 101, 113, 117, 101, 110, 99, 101, 115, 32, 97, 114, 101, 32, 99, 108, 111, 115, 101, 32, 109, 97, 116, 99, 104, 101, 115, 58, 10, 10, 62, 62, 62, 32, 112, 114, 105, 110, 116, 40, 114, 111, 117, 110, 100, 40, 115, 46, 114, 97, 116, 105, 111, 40, 41, 44, 32, 50, 41, 41, 10, 48, 46, 56, 55, 10, 62, 62, 62, 10, 10, 73, 102, 32, 121, 111, 117, 39, 114, 101, 32, 111, 110, 108, 121, 32, 105, 110, 116, 101, 114, 101, 115, 116, 101, 100, 32, 105, 110, 32, 119, 104, 101, 114, 101, 32, 116, 104, 101, 32, 115, 101, 113, 117, 101, 110, 99, 101, 115, 32, 109, 97, 116, 99, 104, 44, 10, 46, 103, 101, 116, 95, 109, 97, 116, 99, 104, 105, 110, 103, 95, 98, 108, 111, 99, 107, 115, 40, 41, 32, 105, 115, 32, 104, 97, 110, 100, 121, 58, 10, 10, 62, 62, 62, 32, 102, 111, 114, 32, 98, 108, 111, 99, 107, 32, 105, 110, 32, 115, 46, 103, 101, 116, 95, 109, 97, 116, 99, 104, 105, 110, 103, 95, 98, 108, 111, 99, 107, 115, 40, 41, 58, 10, 46, 46, 46, 32, 32, 32, 32, 32, 112, 114, 105, 110, 116, 40, 34, 97, 91, 37, 100, 93, 32, 97, 110, 100, 32, 98, 91, 37, 100, 93, 32, 109, 97, 116, 99, 104, 32, 102, 111, 114, 32, 37, 100, 32, 101, 108, 101, 109, 101, 110, 116, 115, 34, 32, 37, 32, 98, 108, 111, 99, 107, 41, 10, 97, 91, 48, 93, 32, 97, 110, 100, 32, 98, 91, 48, 93, 32, 109, 97, 116, 99, 104, 32, 102, 111, 114, 32, 56, 32, 101, 108, 101, 109, 101, 110, 116, 115, 10, 97, 91, 56, 93, 32, 97, 110, 100, 32, 98, 91, 49, 55, 93, 32, 109, 97, 116, 99, 104, 32, 102, 111, 114, 32, 50, 49, 32, 101, 108, 101, 109, 101, 110, 116, 115, 10, 97, 91, 50, 57, 93, 32, 97, 110, 100, 32, 98, 91, 51, 56, 93, 32, 109, 97, 116, 99, 104, 32, 102, 111, 114, 32, 48, 32, 101, 108, 101, 109, 101, 110, 116, 115, 10, 10, 78, 111, 116, 101, 32, 116, 104, 97, 116, 32, 116, 104, 101, 32, 108, 97, 115, 116, 32, 116, 117, 112, 108, 101, 32, 114, 101, 116, 117, 114, 110, 101, 100, 32, 98, 121, 32, 46, 103, 101, 116, 95, 109, 97, 116, 99, 104, 105, 110, 103, 95, 98, 108, 111, 99, 107, 115, 40, 41, 32, 105, 115, 32, 97, 108, 119, 97, 121, 115, 32, 97, 10, 100, 117, 109, 109, 121, 44, 32, 40, 108, 101, 110, 40, 97, 41, 44, 32, 108, 101, 110, 40, 98, 41, 44, 32, 48, 41, 44, 32, 97, 110, 100, 32, 116, 104, 105, 115, 32, 105, 115, 32, 116, 104, 101, 32, 111, 110, 108, 121, 32, 99, 97, 115, 101, 32, 105, 110, 32, 119, 104, 105, 99, 104, 32, 116, 104, 101, 32, 108, 97, 115, 116, 10, 116, 117, 112, 108, 101, 32, 101, 108, 101, 109, 101, 110, 116, 32, 40, 110, 117, 109, 98, 101, 114, 32, 111, 102, 32, 101, 108, 101, 109, 101, 110, 116, 115, 32, 109, 97, 116, 99, 104, 101, 100, 41, 32, 105, 115, 32, 48, 46, 10, 10, 73, 102, 32, 121, 111, 117, 32, 119, 97, 110, 116, 32, 116, 111, 32, 107, 110, 111, 119, 32, 104, 111, 119, 32, 116, 111, 32, 99, 104, 97, 110, 103, 101, 32, 116, 104, 101, 32, 102, 105, 114, 115, 116, 32, 115, 101, 113, 117, 101, 110, 99, 101, 32, 105, 110, 116, 111, 32, 116, 104, 101, 32, 115, 101, 99, 111, 110, 100, 44, 10, 117, 115, 101, 32, 46, 103, 101, 116, 95, 111, 112, 99, 111, 100, 101, 115, 40, 41, 58, 10, 10, 62, 62, 62, 32, 102, 111, 114, 32, 111, 112, 99, 111, 100, 101, 32, 105, 110, 32, 115, 46, 103, 101, 116, 95, 111, 112, 99, 111, 100, 101, 115, 40, 41, 58, 10, 46, 46, 46, 32, 32, 32, 32, 32, 112, 114, 105, 110, 116, 40, 34, 37, 54, 115, 32, 97, 91, 37, 100, 58, 37, 100, 93, 32, 98, 91, 37, 100, 58, 37, 100, 93, 34, 32, 37, 32, 111, 112, 99, 111, 100, 101, 41, 10, 32, 101, 113, 117, 97, 108, 32, 97, 91, 48, 58, 56, 93, 32, 98, 91, 48, 58, 56, 93, 10, 105, 110, 115, 101, 114, 116, 32, 97, 91, 56, 58, 56, 93, 32, 98, 91, 56, 58, 49, 55, 93, 10, 32, 101, 113, 117, 97, 108, 32, 97, 91, 56, 58, 50, 57, 93, 32, 98, 91, 49, 55, 58, 51, 56, 93, 10, 10, 83, 101, 101, 32, 116, 104, 101, 32, 68, 105, 102, 102, 101, 114, 32, 99, 108, 97, 115, 115, 32, 102, 111, 114, 32, 97, 32, 102, 97, 110, 99, 121, 32, 104, 117, 109, 97, 110, 45, 102, 114, 105, 101, 110, 100, 108, 121, 32, 102, 105, 108, 101, 32, 100, 105, 102, 102, 101, 114, 101, 110, 99, 101, 114, 44, 32, 119, 104, 105, 99, 104, 10, 117, 115, 101, 115, 32, 83, 101, 113, 117, 101, 110, 99, 101, 77, 97, 116, 99, 104, 101, 114, 32, 98, 111, 116, 104, 32, 116, 111, 32, 99, 111, 109, 112, 97, 114, 101, 32, 115, 101, 113, 117, 101, 110, 99, 101, 115, 32, 111, 102, 32, 108, 105, 110, 101, 115, 44, 32, 97, 110, 100, 32, 116, 111, 32, 99, 111, 109, 112, 97, 114, 101, 10, 115, 101, 113, 117, 101, 110, 99, 101, 115, 32, 111, 102, 32, 99, 104, 97, 114, 97, 99, 116, 101, 114, 115, 32, 119, 105, 116, 104, 105, 110, 32, 115, 105, 109, 105, 108, 97, 114, 32, 40, 110, 101, 97, 114, 45, 109, 97, 116, 99, 104, 105, 110, 103, 41, 32, 108, 105, 110, 101, 115, 46, 10, 10, 83, 101, 101, 32, 97, 108, 115, 111, 32, 102, 117, 110, 99, 116, 105, 111, 110, 32, 103, 101, 116, 95, 99, 108, 111, 115, 101, 95, 109, 97, 116, 99, 104, 101, 115, 40, 41, 32, 105, 110, 32, 116, 104, 105, 115, 32, 109, 111, 100, 117, 108, 101, 44, 32, 119, 104, 105, 99, 104, 32, 115, 104, 111, 119, 115, 32, 104, 111, 119, 10, 115, 105, 109, 112, 108, 101, 32, 99, 111, 100, 101, 32, 98, 117, 105, 108, 100, 105, 110, 103, 32, 111, 110, 32, 83, 101, 113, 117, 101, 110, 99, 101, 77, 97, 116, 99, 104, 101, 114, 32, 99, 97, 110, 32, 98, 101, 32, 117, 115, 101, 100, 32, 116, 111, 32, 100, 111, 32, 117, 115, 101, 102, 117, 108, 32, 119, 111, 114, 107, 46, 10, 10, 84, 105, 109, 105, 110, 103, 58, 32, 32, 66, 97, 115, 105, 99, 32, 82, 45, 79, 32, 105, 115, 32, 99, 117, 98, 105, 99, 32, 116, 105, 109, 101, 32, 119, 111, 114, 115, 116, 32, 99, 97, 115, 101, 32, 97, 110, 100, 32, 113, 117, 97, 100, 114, 97, 116, 105, 99, 32, 116, 105, 109, 101, 32, 101, 120, 112, 101, 99, 116, 101, 100, 10, 99, 97, 115, 101, 46, 32, 32, 83, 101, 113, 117, 101, 110, 99, 101, 77, 97, 116, 99, 104, 101, 114, 32, 105, 115, 32, 113, 117, 97, 100, 114, 97, 116, 105, 99, 32, 116, 105, 109, 101, 32, 102, 111, 114, 32, 116, 104, 101, 32, 119, 111, 114, 115, 116, 32, 99, 97, 115, 101, 32, 97, 110, 100, 32, 104, 97, 115, 10, 101, 120, 112, 101, 99, 116, 101, 100, 45, 99, 97, 115, 101, 32, 98, 101, 104, 97, 118, 105, 111, 114, 32, 100, 101, 112, 101, 110, 100, 101, 110, 116, 32, 105, 110, 32, 97, 32, 99, 111, 109, 112, 108, 105, 99, 97, 116, 101, 100, 32, 119, 97, 121, 32, 111, 110, 32, 104, 111, 119, 32, 109, 97, 110, 121, 10, 101, 108, 101, 109, 101, 110, 116, 115, 32, 116, 104, 101, 32, 115, 101, 113, 117, 101, 110, 99, 101, 115, 32, 104, 97, 118, 101, 32, 105, 110, 32, 99, 111, 109, 109, 111, 110, 59, 32, 98, 101, 115, 116, 32, 99, 97, 115, 101, 32, 116, 105, 109, 101, 32, 105, 115, 32, 108, 105, 110, 101, 97, 114, 46, 10]
def docCs : List Char := docNs.map Char.ofNat
theorem doc_eq : Str.ofString docLit = Str.mk (Array.mk docNs) := by
  have h : docLit = String.ofList docCs := by kernel_rfl
  rw [h, PySem.W.Fast.ofString_ofList]
  kernel_rfl
def setDocS (d : Str) : Stmt → Stmt
  | .ClassDef n bs ks (.Expr (.Constant (.str _) k p) q :: r) ds tps sc st ts b ps => .ClassDef n bs ks (.Expr (.Constant (.str d) k p) q :: r) ds tps sc st ts b ps
  | s => s
def setDoc (d : Str) (p : Program) : Program := { p with main := { p.main with body := p.main.body.modify 19 (setDocS d) } }
theorem setDoc_eq : setDoc (Str.ofString docLit) pw = pw := by kernel_rfl
def pwQ : Program := setDoc (Str.mk (Array.mk docNs)) pw
theorem pwQ_eq : pwQ = pw := by
  unfold pwQ
  rw [← doc_eq, setDoc_eq]
end Mine
end
section
open PySem PySem.W PyProof.Rows
set_option Elab.async false
set_option maxRecDepth 100000
namespace Mine
def vw : Program := view pw [0, 1, 2, 4, 5, 7, 9, 10, 11, 16, 17, 18, 19, 21, 22, 23, 24, 25, 26, 27, 28]
def ls : List Str := ["_twin_re_1", "_special_chars_map", "b2a_base64", "b64encode", "_tuplegetter", "Match", "SequenceMatcher"]
noncomputable def Xt (s : Shared) : Bool := xlAt vw [] s && recOk (RowW.records (PySem.Challenge.rw_ik0097_01.row.toRowW)) s
noncomputable def look1 (p : Program) (x : Shared × SharedT) : Bool := staticsOk (importedModules pw.main.body) x.1.heap x.2.abs.heap && namesBound p x.2.abs.heap && gensDone x.2.abs && laidKept x.1.heap x.2.abs.heap
def fix (a b : Bool) (w : World) : World := (w.withFollow "comprehension-iter-twice" a).withFollow "special-get-raises" b
end Mine
end
section
open PySem PySem.W PyProof.Rows
set_option Elab.async false
set_option maxRecDepth 100000
set_option linter.unusedVariables false
namespace Mine
def sAt (i : Nat) : Stmt := (pw.main.body[i]?).getD (.Pass default)
def cAt (i j : Nat) : Stmt := match sAt i with
  | .ClassDef _ _ _ b .. => (b[j]?).getD (.Pass default)
  | _ => .Pass default
def docS : Stmt → Str
  | .FunctionDef _ _ (.Expr (.Constant (.str s) _ _) _ :: _) .. => s
  | .ClassDef _ _ _ (.Expr (.Constant (.str s) _ _) _ :: _) .. => s
  | _ => Str.empty
def fnD (s : Stmt) (q : Str) (dV kV doc pm : Value) (an : Option Addr) (cd ct : Value) : FuncData := match s with
  | .FunctionDef n ps b _ _ _ sc .. => fnOf n q ps b sc dV kV doc pm an cd ct
  | _ => default
def k2 (P : Params) : Obj := ⟨.none, none, (.dict (List.toArray [⟨PyData.keyHash P (Str.ofString "\x69mport.loaded._sre"), (.str (Str.ofString "\x69mport.loaded._sre") 183), (.bool true)⟩, ⟨PyData.keyHash P (Str.ofString "class._frozen_importlib.BuiltinImporter"), (.str (Str.ofString "class._frozen_importlib.BuiltinImporter") 185), (.ref 14)⟩, ⟨PyData.keyHash P (Str.ofString "watched.\x69mport"), (.str (Str.ofString "watched.\x69mport") 206), (.ref 18)⟩, ⟨PyData.keyHash P (Str.ofString "class._frozen_importlib.ModuleSpec"), (.str (Str.ofString "class._frozen_importlib.ModuleSpec") 216), (.ref 22)⟩, ⟨PyData.keyHash P (Str.ofString "sys.modules.booked-epoch"), (.str (Str.ofString "sys.modules.booked-epoch") 245), (.int (3) 0)⟩, ⟨PyData.keyHash P (Str.ofString "\x69mport.later-laid._sre"), (.str (Str.ofString "\x69mport.later-laid._sre") 270), (.bool true)⟩, ⟨PyData.keyHash P (Str.ofString "watched.library"), (.str (Str.ofString "watched.library") 272), (.ref 27)⟩, ⟨PyData.keyHash P (Str.ofString "watched.library-objects"), (.str (Str.ofString "watched.library-objects") 0), (.str (Str.ofString "\x0c") 0)⟩, ⟨PyData.keyHash P (Str.ofString "watched.library-deep._sre"), (.str (Str.ofString "watched.library-deep._sre") 273), (.str (Str.ofString "\x04\x00\x00\x0b\x04\x00\x00\x0b\x04\x00\x00\x03\x04\x00\x00\x0b\x08\x04dict\x02") 0)⟩]) 9), List.toArray []⟩
def k3 (P : Params) : Obj := ⟨(.type "dict"), none, (.dict (List.toArray [⟨PyData.keyHash P (Str.ofString "__name__"), (.str (Str.ofString "__name__") 165), (.str (Str.ofString "law_ik0097_01") 930)⟩, ⟨PyData.keyHash P (Str.ofString "__doc__"), (.str (Str.ofString "__doc__") 166), .none⟩, ⟨PyData.keyHash P (Str.ofString "__package__"), (.str (Str.ofString "__package__") 167), .none⟩, ⟨PyData.keyHash P (Str.ofString "__loader__"), (.str (Str.ofString "__loader__") 168), (.builtin "__main__.__loader__#opaque")⟩, ⟨PyData.keyHash P (Str.ofString "__spec__"), (.str (Str.ofString "__spec__") 169), .none⟩, ⟨PyData.keyHash P (Str.ofString "__annotations__"), (.str (Str.ofString "__annotations__") 170), (.ref 6)⟩, ⟨PyData.keyHash P (Str.ofString "__builtins__"), (.str (Str.ofString "__builtins__") 171), (.ref 4)⟩, ⟨PyData.keyHash P (Str.ofString "__file__"), (.str (Str.ofString "__file__") 173), (.str (Str.ofString "/claim/cut.py") 172)⟩, ⟨PyData.keyHash P (Str.ofString "__cached__"), (.str (Str.ofString "__cached__") 174), .none⟩, ⟨PyData.keyHash P (Str.ofString "_sre"), (.str (Str.ofString "_sre") 275), (.ref 12)⟩, ⟨PyData.keyHash P (Str.ofString "_wall"), (.str (Str.ofString "_wall") 288), (.ref 38)⟩, ⟨PyData.keyHash P (Str.ofString "_twin_re_1"), (.str (Str.ofString "_twin_re_1") 326), (.ref 43)⟩, ⟨PyData.keyHash P (Str.ofString "_special_chars_map"), (.str (Str.ofString "_special_chars_map") 474), (.ref 45)⟩, ⟨PyData.keyHash P (Str.ofString "escape"), (.str (Str.ofString "escape") 481), (.ref 55)⟩, ⟨PyData.keyHash P (Str.ofString "_translate"), (.str (Str.ofString "_translate") 502), (.ref 62)⟩, ⟨PyData.keyHash P (Str.ofString "_buffer"), (.str (Str.ofString "_buffer") 512), (.ref 69)⟩, ⟨PyData.keyHash P (Str.ofString "_truth"), (.str (Str.ofString "_truth") 520), (.ref 76)⟩, ⟨PyData.keyHash P (Str.ofString "_B64"), (.str (Str.ofString "_B64") 522), (.bytes #[65, 66, 67, 68, 69, 70, 71, 72, 73, 74, 75, 76, 77, 78, 79, 80, 81, 82, 83, 84, 85, 86, 87, 88, 89, 90, 97, 98, 99, 100, 101, 102, 103, 104, 105, 106, 107, 108, 109, 110, 111, 112, 113, 114, 115, 116, 117, 118, 119, 120, 121, 122, 48, 49, 50, 51, 52, 53, 54, 55, 56, 57, 43, 47] 521)⟩, ⟨PyData.keyHash P (Str.ofString "b2a_base64"), (.str (Str.ofString "b2a_base64") 536), (.ref 84)⟩, ⟨PyData.keyHash P (Str.ofString "b64encode"), (.str (Str.ofString "b64encode") 548), (.ref 92)⟩, ⟨PyData.keyHash P (Str.ofString "_tuplegetter"), (.str (Str.ofString "_tuplegetter") 607), (.ref 131)⟩, ⟨PyData.keyHash P (Str.ofString "Match"), (.str (Str.ofString "Match") 735), (.ref 206)⟩, ⟨PyData.keyHash P (Str.ofString "_calculate_ratio"), (.str (Str.ofString "_calculate_ratio") 743), (.ref 216)⟩, ⟨PyData.keyHash P (Str.ofString "SequenceMatcher"), (.str (Str.ofString "SequenceMatcher") 929), (.ref 313)⟩, ⟨PyData.keyHash P (Str.ofString "_law_changed"), (.str (Str.ofString "_law_changed") 941), (.ref 324)⟩, ⟨PyData.keyHash P (Str.ofString "_law_coded"), (.str (Str.ofString "_law_coded") 947), (.ref 329)⟩, ⟨PyData.keyHash P (Str.ofString "_law_longest"), (.str (Str.ofString "_law_longest") 959), (.ref 336)⟩, ⟨PyData.keyHash P (Str.ofString "_law_blocks"), (.str (Str.ofString "_law_blocks") 973), (.ref 343)⟩, ⟨PyData.keyHash P (Str.ofString "_law_joined"), (.str (Str.ofString "_law_joined") 989), (.ref 350)⟩, ⟨PyData.keyHash P (Str.ofString "_law_fits"), (.str (Str.ofString "_law_fits") 995), (.ref 355)⟩, ⟨PyData.keyHash P (Str.ofString "_law_said"), (.str (Str.ofString "_law_said") 1007), (.ref 362)⟩, ⟨PyData.keyHash P (Str.ofString "law"), (.str (Str.ofString "law") 1013), (.ref 367)⟩]) 32), List.toArray []⟩
def k32 (P : Params) : Obj := ⟨(.type "tuple"), none, (.seq (List.toArray []) 0), List.toArray []⟩
def k34 (P : Params) : Obj := ⟨(.type "tuple"), none, (.seq (List.toArray [(.str (Str.ofString "k") 285)]) 0), List.toArray []⟩
def k35 (P : Params) : Obj := ⟨(.type "tuple"), none, (.seq (List.toArray []) 0), List.toArray []⟩
def k37 (P : Params) : Obj := ⟨(.type "code"), none, (.fields (List.toArray [(.str (Str.ofString "_wall") 282), (.str (Str.ofString "_wall") 283), (.str (Str.ofString "/claim/cut.py") 284), (.int (2) 0), (.int (1) 0), (.int (0) 0), (.int (0) 0), (.int (3) 0), (.ref 32), (.bool true), (.int (276) 0), (.ref 33), .none, (.ref 34), (.ref 35), (.ref 36), (.int (286) 0), (.int (2) 0), (.str (Str.ofString "/claim/cut.py") 287)])), List.toArray []⟩
def k38 (P : Params) : Obj := ⟨(.type "function"), none, (.func (fnD (sAt 1) (Str.ofString "_wall") .none .none .none (.str (Str.ofString "__main__") 164) none (.ref 37) .none)), List.toArray []⟩
def k42 (P : Params) : Obj := ⟨(.type "tuple"), none, (.seq (List.toArray [(.int (14) 0), (.int (14) 0), (.int (4) 0), (.int (1) 0), (.int (1) 0), (.int (9) 0), (.int (0) 0), (.int (64) 0), (.int (0) 0), (.int (1342177280) 0), (.int (0) 0), (.int (0) 0), (.int (0) 0), (.int (0) 0), (.int (0) 0), (.int (17) 0), (.int (0) 0), (.int (13) 0), (.int (11) 0), (.int (9) 0), (.int (0) 0), (.int (64) 0), (.int (0) 0), (.int (1342177280) 0), (.int (0) 0), (.int (0) 0), (.int (0) 0), (.int (0) 0), (.int (0) 0), (.int (17) 0), (.int (1) 0), (.int (1) 0)]) 0), List.toArray []⟩
def k43 (P : Params) : Obj := ⟨(.type "re.Pattern"), none, (.fields (List.toArray [(.str (Str.ofString "([&~|])") 290), (.int (32) 325), (.int (1) 0), .none, .none, (.ref 42), (.int (0) 0)])), List.toArray []⟩
def k45 (P : Params) : Obj := ⟨(.type "dict"), none, (.dict (List.toArray [⟨(40), (.int (40) 330), (.str (Str.ofString "\\(") 334)⟩, ⟨(41), (.int (41) 336), (.str (Str.ofString "\\)") 340)⟩, ⟨(91), (.int (91) 342), (.str (Str.ofString "\\[") 346)⟩, ⟨(93), (.int (93) 348), (.str (Str.ofString "\\]") 352)⟩, ⟨(123), (.int (123) 354), (.str (Str.ofString "\\{") 358)⟩, ⟨(125), (.int (125) 360), (.str (Str.ofString "\\}") 364)⟩, ⟨(63), (.int (63) 366), (.str (Str.ofString "\\?") 370)⟩, ⟨(42), (.int (42) 372), (.str (Str.ofString "\\*") 376)⟩, ⟨(43), (.int (43) 378), (.str (Str.ofString "\\+") 382)⟩, ⟨(45), (.int (45) 384), (.str (Str.ofString "\\-") 388)⟩, ⟨(124), (.int (124) 390), (.str (Str.ofString "\\|") 394)⟩, ⟨(94), (.int (94) 396), (.str (Str.ofString "\\^") 400)⟩, ⟨(36), (.int (36) 402), (.str (Str.ofString "\\$") 406)⟩, ⟨(92), (.int (92) 408), (.str (Str.ofString "\\\\") 412)⟩, ⟨(46), (.int (46) 414), (.str (Str.ofString "\\.") 418)⟩, ⟨(38), (.int (38) 420), (.str (Str.ofString "\\&") 424)⟩, ⟨(126), (.int (126) 426), (.str (Str.ofString "\\~") 430)⟩, ⟨(35), (.int (35) 432), (.str (Str.ofString "\\#") 436)⟩, ⟨(32), (.int (32) 438), (.str (Str.ofString "\\ ") 442)⟩, ⟨(9), (.int (9) 444), (.str (Str.ofString "\\\t") 448)⟩, ⟨(10), (.int (10) 450), (.str (Str.ofString "\\\n") 454)⟩, ⟨(13), (.int (13) 456), (.str (Str.ofString "\\\x0d") 460)⟩, ⟨(11), (.int (11) 462), (.str (Str.ofString "\\\x0b") 466)⟩, ⟨(12), (.int (12) 468), (.str (Str.ofString "\\\x0c") 472)⟩]) 24), List.toArray []⟩
def k49 (P : Params) : Obj := ⟨(.type "tuple"), none, (.seq (List.toArray []) 0), List.toArray []⟩
def k51 (P : Params) : Obj := ⟨(.type "tuple"), none, (.seq (List.toArray [(.str (Str.ofString "pattern") 478)]) 0), List.toArray []⟩
def k52 (P : Params) : Obj := ⟨(.type "tuple"), none, (.seq (List.toArray []) 0), List.toArray []⟩
def k54 (P : Params) : Obj := ⟨(.type "code"), none, (.fields (List.toArray [(.str (Str.ofString "escape") 475), (.str (Str.ofString "escape") 476), (.str (Str.ofString "/claim/cut.py") 477), (.int (8) 0), (.int (1) 0), (.int (0) 0), (.int (0) 0), (.int (3) 0), (.ref 49), (.bool true), (.int (276) 0), (.ref 50), .none, (.ref 51), (.ref 52), (.ref 53), (.int (479) 0), (.int (8) 0), (.str (Str.ofString "/claim/cut.py") 480)])), List.toArray []⟩
def k55 (P : Params) : Obj := ⟨(.type "function"), none, (.func (fnD (sAt 5) (Str.ofString "escape") .none .none .none (.str (Str.ofString "re") 327) none (.ref 54) .none)), List.toArray []⟩
def k56 (P : Params) : Obj := ⟨(.type "tuple"), none, (.seq (List.toArray []) 0), List.toArray []⟩
def k58 (P : Params) : Obj := ⟨(.type "tuple"), none, (.seq (List.toArray [(.str (Str.ofString "pat") 487), (.str (Str.ofString "STAR") 488), (.str (Str.ofString "QUESTION_MARK") 489), (.str (Str.ofString "res") 490), (.str (Str.ofString "add") 491), (.str (Str.ofString "i") 492), (.str (Str.ofString "n") 493), (.str (Str.ofString "c") 494), (.str (Str.ofString "j") 495), (.str (Str.ofString "stuff") 496), (.str (Str.ofString "chunks") 497), (.str (Str.ofString "k") 498), (.str (Str.ofString "chunk") 499)]) 0), List.toArray []⟩
def k59 (P : Params) : Obj := ⟨(.type "tuple"), none, (.seq (List.toArray []) 0), List.toArray []⟩
def k61 (P : Params) : Obj := ⟨(.type "code"), none, (.fields (List.toArray [(.str (Str.ofString "_translate") 484), (.str (Str.ofString "_translate") 485), (.str (Str.ofString "/claim/cut.py") 486), (.int (15) 0), (.int (3) 0), (.int (0) 0), (.int (0) 0), (.int (3) 0), (.ref 56), (.bool true), (.int (276) 0), (.ref 57), .none, (.ref 58), (.ref 59), (.ref 60), (.int (500) 0), (.int (15) 0), (.str (Str.ofString "/claim/cut.py") 501)])), List.toArray []⟩
def k62 (P : Params) : Obj := ⟨(.type "function"), none, (.func (fnD (sAt 7) (Str.ofString "_translate") .none .none .none (.str (Str.ofString "cpy313.fnmatch") 482) none (.ref 61) .none)), List.toArray []⟩
def k63 (P : Params) : Obj := ⟨(.type "tuple"), none, (.seq (List.toArray []) 0), List.toArray []⟩
def k65 (P : Params) : Obj := ⟨(.type "tuple"), none, (.seq (List.toArray [(.str (Str.ofString "data") 508), (.str (Str.ofString "t") 509)]) 0), List.toArray []⟩
def k66 (P : Params) : Obj := ⟨(.type "tuple"), none, (.seq (List.toArray []) 0), List.toArray []⟩
def k68 (P : Params) : Obj := ⟨(.type "code"), none, (.fields (List.toArray [(.str (Str.ofString "_buffer") 505), (.str (Str.ofString "_buffer") 506), (.str (Str.ofString "/claim/cut.py") 507), (.int (78) 0), (.int (1) 0), (.int (0) 0), (.int (0) 0), (.int (3) 0), (.ref 63), (.bool true), (.int (276) 0), (.ref 64), .none, (.ref 65), (.ref 66), (.ref 67), (.int (510) 0), (.int (78) 0), (.str (Str.ofString "/claim/cut.py") 511)])), List.toArray []⟩
def k69 (P : Params) : Obj := ⟨(.type "function"), none, (.func (fnD (sAt 9) (Str.ofString "_buffer") .none .none .none (.str (Str.ofString "binascii") 503) none (.ref 68) .none)), List.toArray []⟩
def k70 (P : Params) : Obj := ⟨(.type "tuple"), none, (.seq (List.toArray []) 0), List.toArray []⟩
def k72 (P : Params) : Obj := ⟨(.type "tuple"), none, (.seq (List.toArray [(.str (Str.ofString "x") 516), (.str (Str.ofString "t") 517)]) 0), List.toArray []⟩
def k73 (P : Params) : Obj := ⟨(.type "tuple"), none, (.seq (List.toArray []) 0), List.toArray []⟩
def k75 (P : Params) : Obj := ⟨(.type "code"), none, (.fields (List.toArray [(.str (Str.ofString "_truth") 513), (.str (Str.ofString "_truth") 514), (.str (Str.ofString "/claim/cut.py") 515), (.int (85) 0), (.int (1) 0), (.int (0) 0), (.int (0) 0), (.int (3) 0), (.ref 70), (.bool true), (.int (276) 0), (.ref 71), .none, (.ref 72), (.ref 73), (.ref 74), (.int (518) 0), (.int (85) 0), (.str (Str.ofString "/claim/cut.py") 519)])), List.toArray []⟩
def k76 (P : Params) : Obj := ⟨(.type "function"), none, (.func (fnD (sAt 10) (Str.ofString "_truth") .none .none .none (.str (Str.ofString "binascii") 503) none (.ref 75) .none)), List.toArray []⟩
def k77 (P : Params) : Obj := ⟨(.type "dict"), none, (.dict (List.toArray [⟨PyData.keyHash P (Str.ofString "newline"), (.str (Str.ofString "newline") 523), (.bool true)⟩]) 1), List.toArray []⟩
def k78 (P : Params) : Obj := ⟨(.type "tuple"), none, (.seq (List.toArray []) 0), List.toArray []⟩
def k80 (P : Params) : Obj := ⟨(.type "tuple"), none, (.seq (List.toArray [(.str (Str.ofString "data") 527), (.str (Str.ofString "newline") 528), (.str (Str.ofString "bin_data") 529), (.str (Str.ofString "out") 530), (.str (Str.ofString "leftbits") 531), (.str (Str.ofString "leftchar") 532), (.str (Str.ofString "b") 533)]) 0), List.toArray []⟩
def k81 (P : Params) : Obj := ⟨(.type "tuple"), none, (.seq (List.toArray []) 0), List.toArray []⟩
def k83 (P : Params) : Obj := ⟨(.type "code"), none, (.fields (List.toArray [(.str (Str.ofString "b2a_base64") 524), (.str (Str.ofString "b2a_base64") 525), (.str (Str.ofString "/claim/cut.py") 526), (.int (91) 0), (.int (1) 0), (.int (1) 0), (.int (1) 0), (.int (3) 0), (.ref 78), (.bool true), (.int (276) 0), (.ref 79), .none, (.ref 80), (.ref 81), (.ref 82), (.int (534) 0), (.int (91) 0), (.str (Str.ofString "/claim/cut.py") 535)])), List.toArray []⟩
def k84 (P : Params) : Obj := ⟨(.type "function"), none, (.func (fnD (sAt 12) (Str.ofString "b2a_base64") .none (.ref 77) .none (.str (Str.ofString "binascii") 503) none (.ref 83) .none)), List.toArray []⟩
def k85 (P : Params) : Obj := ⟨(.type "tuple"), none, (.seq (List.toArray [.none]) 0), List.toArray []⟩
def k86 (P : Params) : Obj := ⟨(.type "tuple"), none, (.seq (List.toArray []) 0), List.toArray []⟩
def k88 (P : Params) : Obj := ⟨(.type "tuple"), none, (.seq (List.toArray [(.str (Str.ofString "s") 542), (.str (Str.ofString "altchars") 543), (.str (Str.ofString "encoded") 544)]) 0), List.toArray []⟩
def k89 (P : Params) : Obj := ⟨(.type "tuple"), none, (.seq (List.toArray []) 0), List.toArray []⟩
def k91 (P : Params) : Obj := ⟨(.type "code"), none, (.fields (List.toArray [(.str (Str.ofString "b64encode") 539), (.str (Str.ofString "b64encode") 540), (.str (Str.ofString "/claim/cut.py") 541), (.int (114) 0), (.int (2) 0), (.int (0) 0), (.int (0) 0), (.int (3) 0), (.ref 86), (.bool true), (.int (276) 0), (.ref 87), .none, (.ref 88), (.ref 89), (.ref 90), (.int (545) 0), (.int (114) 0), (.str (Str.ofString "/claim/cut.py") 546)])), List.toArray []⟩
def k92 (P : Params) : Obj := ⟨(.type "function"), none, (.func (fnD (sAt 14) (Str.ofString "b64encode") (.ref 85) .none (.str (docS (sAt 14)) 547) (.str (Str.ofString "cpy313.base64") 537) none (.ref 91) .none)), List.toArray []⟩
def k100 (P : Params) : Obj := ⟨(.type "tuple"), none, (.seq (List.toArray []) 0), List.toArray []⟩
def k102 (P : Params) : Obj := ⟨(.type "tuple"), none, (.seq (List.toArray [(.str (Str.ofString "self") 566), (.str (Str.ofString "index") 567), (.str (Str.ofString "doc") 568)]) 0), List.toArray []⟩
def k103 (P : Params) : Obj := ⟨(.type "tuple"), none, (.seq (List.toArray []) 0), List.toArray []⟩
def k105 (P : Params) : Obj := ⟨(.type "code"), none, (.fields (List.toArray [(.str (Str.ofString "__init__") 563), (.str (Str.ofString "_tuplegetter.__init__") 564), (.str (Str.ofString "/claim/cut.py") 565), (.int (129) 0), (.int (3) 0), (.int (0) 0), (.int (0) 0), (.int (3) 0), (.ref 100), (.bool true), (.int (276) 0), (.ref 101), .none, (.ref 102), (.ref 103), (.ref 104), (.int (569) 0), (.int (129) 0), (.str (Str.ofString "/claim/cut.py") 570)])), List.toArray []⟩
def k106 (P : Params) : Obj := ⟨(.type "function"), none, (.func (fnD (cAt 16 0) (Str.ofString "_tuplegetter.__init__") .none .none .none (.str (Str.ofString "cpy313.difflib") 549) none (.ref 105) .none)), List.toArray []⟩
def k107 (P : Params) : Obj := ⟨(.type "tuple"), none, (.seq (List.toArray [.none]) 0), List.toArray []⟩
def k108 (P : Params) : Obj := ⟨(.type "tuple"), none, (.seq (List.toArray []) 0), List.toArray []⟩
def k110 (P : Params) : Obj := ⟨(.type "tuple"), none, (.seq (List.toArray [(.str (Str.ofString "self") 575), (.str (Str.ofString "obj") 576), (.str (Str.ofString "objtype") 577)]) 0), List.toArray []⟩
def k111 (P : Params) : Obj := ⟨(.type "tuple"), none, (.seq (List.toArray []) 0), List.toArray []⟩
def k113 (P : Params) : Obj := ⟨(.type "code"), none, (.fields (List.toArray [(.str (Str.ofString "__get__") 572), (.str (Str.ofString "_tuplegetter.__get__") 573), (.str (Str.ofString "/claim/cut.py") 574), (.int (133) 0), (.int (3) 0), (.int (0) 0), (.int (0) 0), (.int (3) 0), (.ref 108), (.bool true), (.int (276) 0), (.ref 109), .none, (.ref 110), (.ref 111), (.ref 112), (.int (578) 0), (.int (133) 0), (.str (Str.ofString "/claim/cut.py") 579)])), List.toArray []⟩
def k114 (P : Params) : Obj := ⟨(.type "function"), none, (.func (fnD (cAt 16 1) (Str.ofString "_tuplegetter.__get__") (.ref 107) .none .none (.str (Str.ofString "cpy313.difflib") 549) none (.ref 113) .none)), List.toArray []⟩
def k115 (P : Params) : Obj := ⟨(.type "tuple"), none, (.seq (List.toArray []) 0), List.toArray []⟩
def k117 (P : Params) : Obj := ⟨(.type "tuple"), none, (.seq (List.toArray [(.str (Str.ofString "self") 584), (.str (Str.ofString "obj") 585), (.str (Str.ofString "value") 586)]) 0), List.toArray []⟩
def k118 (P : Params) : Obj := ⟨(.type "tuple"), none, (.seq (List.toArray []) 0), List.toArray []⟩
def k120 (P : Params) : Obj := ⟨(.type "code"), none, (.fields (List.toArray [(.str (Str.ofString "__set__") 581), (.str (Str.ofString "_tuplegetter.__set__") 582), (.str (Str.ofString "/claim/cut.py") 583), (.int (140) 0), (.int (3) 0), (.int (0) 0), (.int (0) 0), (.int (3) 0), (.ref 115), (.bool true), (.int (276) 0), (.ref 116), .none, (.ref 117), (.ref 118), (.ref 119), (.int (587) 0), (.int (140) 0), (.str (Str.ofString "/claim/cut.py") 588)])), List.toArray []⟩
def k121 (P : Params) : Obj := ⟨(.type "function"), none, (.func (fnD (cAt 16 2) (Str.ofString "_tuplegetter.__set__") .none .none .none (.str (Str.ofString "cpy313.difflib") 549) none (.ref 120) .none)), List.toArray []⟩
def k122 (P : Params) : Obj := ⟨(.type "tuple"), none, (.seq (List.toArray []) 0), List.toArray []⟩
def k124 (P : Params) : Obj := ⟨(.type "tuple"), none, (.seq (List.toArray [(.str (Str.ofString "self") 593), (.str (Str.ofString "obj") 594)]) 0), List.toArray []⟩
def k125 (P : Params) : Obj := ⟨(.type "tuple"), none, (.seq (List.toArray []) 0), List.toArray []⟩
def k127 (P : Params) : Obj := ⟨(.type "code"), none, (.fields (List.toArray [(.str (Str.ofString "__delete__") 590), (.str (Str.ofString "_tuplegetter.__delete__") 591), (.str (Str.ofString "/claim/cut.py") 592), (.int (143) 0), (.int (2) 0), (.int (0) 0), (.int (0) 0), (.int (3) 0), (.ref 122), (.bool true), (.int (276) 0), (.ref 123), .none, (.ref 124), (.ref 125), (.ref 126), (.int (595) 0), (.int (143) 0), (.str (Str.ofString "/claim/cut.py") 596)])), List.toArray []⟩
def k128 (P : Params) : Obj := ⟨(.type "function"), none, (.func (fnD (cAt 16 3) (Str.ofString "_tuplegetter.__delete__") .none .none .none (.str (Str.ofString "cpy313.difflib") 549) none (.ref 127) .none)), List.toArray []⟩
def k129 (P : Params) : Obj := ⟨(.type "tuple"), none, (.seq (List.toArray [(.str (Str.ofString "__doc__") 598), (.str (Str.ofString "index") 599)]) 0), List.toArray []⟩
def k130 (P : Params) : Obj := ⟨(.type "dict"), none, (.dict (List.toArray [⟨PyData.keyHash P (Str.ofString "__module__"), (.str (Str.ofString "__module__") 558), (.str (Str.ofString "cpy313.difflib") 549)⟩, ⟨PyData.keyHash P (Str.ofString "__firstlineno__"), (.str (Str.ofString "__firstlineno__") 562), (.int (127) 561)⟩, ⟨PyData.keyHash P (Str.ofString "__init__"), (.str (Str.ofString "__init__") 571), (.ref 106)⟩, ⟨PyData.keyHash P (Str.ofString "__get__"), (.str (Str.ofString "__get__") 580), (.ref 114)⟩, ⟨PyData.keyHash P (Str.ofString "__set__"), (.str (Str.ofString "__set__") 589), (.ref 121)⟩, ⟨PyData.keyHash P (Str.ofString "__delete__"), (.str (Str.ofString "__delete__") 597), (.ref 128)⟩, ⟨PyData.keyHash P (Str.ofString "__static_attributes__"), (.str (Str.ofString "__static_attributes__") 600), (.ref 129)⟩, ⟨PyData.keyHash P (Str.ofString "__dict__"), (.str (Str.ofString "__dict__") 602), (.ref 132)⟩, ⟨PyData.keyHash P (Str.ofString "__weakref__"), (.str (Str.ofString "__weakref__") 604), (.ref 133)⟩, ⟨PyData.keyHash P (Str.ofString "__doc__"), (.str (Str.ofString "__doc__") 605), .none⟩]) 4), List.toArray []⟩
def k131 (P : Params) : Obj := ⟨(.type "type"), none, (.cls { name := (Str.ofString "_tuplegetter"), bases := [(.type "object")], mro := [(.ref 131), (.type "object")], ns := 130, qualname := (Str.ofString "_tuplegetter"), hasDict := true, slotNames := [], subclasses := [], abstract := false, collection := none, hasDel := false }), List.toArray [none, none, (some (.str (Str.ofString "_tuplegetter") 551)), (some (.str (Str.ofString "_tuplegetter") 559)), (some (.builtin "object.__new__")), (some (.bool true))]⟩
def k132 (P : Params) : Obj := ⟨(.type "getset_descriptor"), none, (.fields (List.toArray [(.str (Str.ofString "__dict__") 601), (.ref 131), (.builtin "function.__dict__"), (.builtin "function.__dict__#set")])), List.toArray []⟩
def k133 (P : Params) : Obj := ⟨(.type "getset_descriptor"), none, (.fields (List.toArray [(.str (Str.ofString "__weakref__") 603), (.ref 131), (.builtin "ExceptionGroup.__weakref__"), .none])), List.toArray []⟩
def k136 (P : Params) : Obj := ⟨(.type "tuple"), none, (.seq (List.toArray [(.type "tuple")]) 0), List.toArray []⟩
def k139 (P : Params) : Obj := ⟨(.type "cell"), none, (.cell (some (.ref 206))), List.toArray []⟩
def k144 (P : Params) : Obj := ⟨(.type "tuple"), none, (.seq (List.toArray []) 0), List.toArray []⟩
def k145 (P : Params) : Obj := ⟨(.type "tuple"), none, (.seq (List.toArray [(.str (Str.ofString "a") 624), (.str (Str.ofString "b") 625), (.str (Str.ofString "size") 626)]) 0), List.toArray []⟩
def k146 (P : Params) : Obj := ⟨(.type "dict"), none, (.dict (List.toArray []) 0), List.toArray []⟩
def k147 (P : Params) : Obj := ⟨(.type "tuple"), none, (.seq (List.toArray []) 0), List.toArray []⟩
def k149 (P : Params) : Obj := ⟨(.type "tuple"), none, (.seq (List.toArray [(.str (Str.ofString "_cls") 632), (.str (Str.ofString "a") 633), (.str (Str.ofString "b") 634), (.str (Str.ofString "size") 635)]) 0), List.toArray []⟩
def k150 (P : Params) : Obj := ⟨(.type "tuple"), none, (.seq (List.toArray []) 0), List.toArray []⟩
def k152 (P : Params) : Obj := ⟨(.type "code"), none, (.fields (List.toArray [(.str (Str.ofString "__new__") 629), (.str (Str.ofString "Match.__new__") 630), (.str (Str.ofString "/claim/cut.py") 631), (.int (151) 0), (.int (4) 0), (.int (0) 0), (.int (0) 0), (.int (3) 0), (.ref 147), (.bool true), (.int (276) 0), (.ref 148), .none, (.ref 149), (.ref 150), (.ref 151), (.int (636) 0), (.int (151) 0), (.str (Str.ofString "/claim/cut.py") 637)])), List.toArray []⟩
def k153 (P : Params) : Obj := ⟨(.type "function"), none, (.func (fnD (cAt 17 4) (Str.ofString "Match.__new__") .none .none (.str (Str.ofString "Create new instance of Match(a, b, size)") 638) (.str (Str.ofString "cpy313.difflib") 549) none (.ref 152) .none)), List.toArray []⟩
def k154 (P : Params) : Obj := ⟨(.type "tuple"), none, (.seq (List.toArray []) 0), List.toArray []⟩
def k156 (P : Params) : Obj := ⟨(.type "tuple"), none, (.seq (List.toArray [(.str (Str.ofString "cls") 643), (.str (Str.ofString "iterable") 644), (.str (Str.ofString "result") 645)]) 0), List.toArray []⟩
def k157 (P : Params) : Obj := ⟨(.type "tuple"), none, (.seq (List.toArray []) 0), List.toArray []⟩
def k159 (P : Params) : Obj := ⟨(.type "code"), none, (.fields (List.toArray [(.str (Str.ofString "_make") 640), (.str (Str.ofString "Match._make") 641), (.str (Str.ofString "/claim/cut.py") 642), (.int (155) 0), (.int (2) 0), (.int (0) 0), (.int (0) 0), (.int (3) 0), (.ref 154), (.bool true), (.int (276) 0), (.ref 155), .none, (.ref 156), (.ref 157), (.ref 158), (.int (646) 0), (.int (155) 0), (.str (Str.ofString "/claim/cut.py") 647)])), List.toArray []⟩
def k160 (P : Params) : Obj := ⟨(.type "function"), none, (.func (fnD (cAt 17 5) (Str.ofString "Match._make") .none .none (.str (docS (cAt 17 5)) 648) (.str (Str.ofString "cpy313.difflib") 549) (some 163) (.ref 159) .none)), List.toArray []⟩
def k161 (P : Params) : Obj := ⟨(.type "dict"), none, (.dict (List.toArray [⟨PyData.keyHash P (Str.ofString "__module__"), (.str (Str.ofString "__module__") 650), (.str (Str.ofString "cpy313.difflib") 549)⟩, ⟨PyData.keyHash P (Str.ofString "__name__"), (.str (Str.ofString "__name__") 653), (.str (Str.ofString "_make") 652)⟩, ⟨PyData.keyHash P (Str.ofString "__qualname__"), (.str (Str.ofString "__qualname__") 656), (.str (Str.ofString "Match._make") 655)⟩, ⟨PyData.keyHash P (Str.ofString "__doc__"), (.str (Str.ofString "__doc__") 658), (.str (docS (cAt 17 5)) 648)⟩, ⟨PyData.keyHash P (Str.ofString "__annotations__"), (.str (Str.ofString "__annotations__") 660), (.ref 163)⟩]) 5), List.toArray []⟩
def k162 (P : Params) : Obj := ⟨(.type "classmethod"), (some 161), (.fields (List.toArray [(.ref 160), (.bool false)])), List.toArray []⟩
def k163 (P : Params) : Obj := ⟨(.type "dict"), none, (.dict (List.toArray []) 0), List.toArray []⟩
def k164 (P : Params) : Obj := ⟨(.type "tuple"), none, (.seq (List.toArray [(.ref 139)]) 0), List.toArray []⟩
def k165 (P : Params) : Obj := ⟨(.type "tuple"), none, (.seq (List.toArray [(.str (Str.ofString "__class__") 665)]) 0), List.toArray []⟩
def k167 (P : Params) : Obj := ⟨(.type "tuple"), none, (.seq (List.toArray [(.str (Str.ofString "self") 666), (.str (Str.ofString "kwds") 667), (.str (Str.ofString "result") 668)]) 0), List.toArray []⟩
def k168 (P : Params) : Obj := ⟨(.type "tuple"), none, (.seq (List.toArray []) 0), List.toArray []⟩
def k170 (P : Params) : Obj := ⟨(.type "code"), none, (.fields (List.toArray [(.str (Str.ofString "_replace") 662), (.str (Str.ofString "Match._replace") 663), (.str (Str.ofString "/claim/cut.py") 664), (.int (163) 0), (.int (1) 0), (.int (1) 0), (.int (0) 0), (.int (11) 0), (.ref 165), (.bool true), (.int (276) 0), (.ref 166), .none, (.ref 167), (.ref 168), (.ref 169), (.int (669) 0), (.int (163) 0), (.str (Str.ofString "/claim/cut.py") 670)])), List.toArray []⟩
def k171 (P : Params) : Obj := ⟨(.type "function"), none, (.func { fnD (cAt 17 6) (Str.ofString "Match._replace") .none .none (.str (docS (cAt 17 6)) 671) (.str (Str.ofString "cpy313.difflib") 549) none (.ref 170) (.ref 164) with closure := [((Str.ofString "__class__"), 139)] }), List.toArray []⟩
def k172 (P : Params) : Obj := ⟨(.type "tuple"), none, (.seq (List.toArray []) 0), List.toArray []⟩
def k174 (P : Params) : Obj := ⟨(.type "tuple"), none, (.seq (List.toArray [(.str (Str.ofString "self") 677)]) 0), List.toArray []⟩
def k175 (P : Params) : Obj := ⟨(.type "tuple"), none, (.seq (List.toArray []) 0), List.toArray []⟩
def k177 (P : Params) : Obj := ⟨(.type "code"), none, (.fields (List.toArray [(.str (Str.ofString "__repr__") 674), (.str (Str.ofString "Match.__repr__") 675), (.str (Str.ofString "/claim/cut.py") 676), (.int (174) 0), (.int (1) 0), (.int (0) 0), (.int (0) 0), (.int (3) 0), (.ref 172), (.bool true), (.int (276) 0), (.ref 173), .none, (.ref 174), (.ref 175), (.ref 176), (.int (678) 0), (.int (174) 0), (.str (Str.ofString "/claim/cut.py") 679)])), List.toArray []⟩
def k178 (P : Params) : Obj := ⟨(.type "function"), none, (.func (fnD (cAt 17 8) (Str.ofString "Match.__repr__") .none .none (.str (docS (cAt 17 8)) 680) (.str (Str.ofString "cpy313.difflib") 549) none (.ref 177) .none)), List.toArray []⟩
def k179 (P : Params) : Obj := ⟨(.type "tuple"), none, (.seq (List.toArray []) 0), List.toArray []⟩
def k181 (P : Params) : Obj := ⟨(.type "tuple"), none, (.seq (List.toArray [(.str (Str.ofString "self") 685)]) 0), List.toArray []⟩
def k182 (P : Params) : Obj := ⟨(.type "tuple"), none, (.seq (List.toArray []) 0), List.toArray []⟩
def k184 (P : Params) : Obj := ⟨(.type "code"), none, (.fields (List.toArray [(.str (Str.ofString "_asdict") 682), (.str (Str.ofString "Match._asdict") 683), (.str (Str.ofString "/claim/cut.py") 684), (.int (178) 0), (.int (1) 0), (.int (0) 0), (.int (0) 0), (.int (3) 0), (.ref 179), (.bool true), (.int (276) 0), (.ref 180), .none, (.ref 181), (.ref 182), (.ref 183), (.int (686) 0), (.int (178) 0), (.str (Str.ofString "/claim/cut.py") 687)])), List.toArray []⟩
def k185 (P : Params) : Obj := ⟨(.type "function"), none, (.func (fnD (cAt 17 9) (Str.ofString "Match._asdict") .none .none .none (.str (Str.ofString "cpy313.difflib") 549) none (.ref 184) .none)), List.toArray []⟩
def k186 (P : Params) : Obj := ⟨(.type "tuple"), none, (.seq (List.toArray []) 0), List.toArray []⟩
def k188 (P : Params) : Obj := ⟨(.type "tuple"), none, (.seq (List.toArray [(.str (Str.ofString "self") 692)]) 0), List.toArray []⟩
def k189 (P : Params) : Obj := ⟨(.type "tuple"), none, (.seq (List.toArray []) 0), List.toArray []⟩
def k191 (P : Params) : Obj := ⟨(.type "code"), none, (.fields (List.toArray [(.str (Str.ofString "__getnewargs__") 689), (.str (Str.ofString "Match.__getnewargs__") 690), (.str (Str.ofString "/claim/cut.py") 691), (.int (181) 0), (.int (1) 0), (.int (0) 0), (.int (0) 0), (.int (3) 0), (.ref 186), (.bool true), (.int (276) 0), (.ref 187), .none, (.ref 188), (.ref 189), (.ref 190), (.int (693) 0), (.int (181) 0), (.str (Str.ofString "/claim/cut.py") 694)])), List.toArray []⟩
def k192 (P : Params) : Obj := ⟨(.type "function"), none, (.func (fnD (cAt 17 10) (Str.ofString "Match.__getnewargs__") .none .none (.str (docS (cAt 17 10)) 695) (.str (Str.ofString "cpy313.difflib") 549) none (.ref 191) .none)), List.toArray []⟩
def k193 (P : Params) : Obj := ⟨(.type "tuple"), none, (.seq (List.toArray [(.str (Str.ofString "a") 697), (.str (Str.ofString "b") 698), (.str (Str.ofString "size") 699)]) 0), List.toArray []⟩
def k194 (P : Params) : Obj := ⟨(.type "dict"), none, (.dict (List.toArray [⟨PyData.keyHash P (Str.ofString "index"), (.str (Str.ofString "index") 707), (.int (0) 701)⟩, ⟨PyData.keyHash P (Str.ofString "__doc__"), (.str (Str.ofString "__doc__") 709), (.str (Str.ofString "Alias for field number 0") 702)⟩]) 2), List.toArray []⟩
def k195 (P : Params) : Obj := ⟨(.ref 131), (some 194), .plain, List.toArray []⟩
def k197 (P : Params) : Obj := ⟨(.type "dict"), none, (.dict (List.toArray [⟨PyData.keyHash P (Str.ofString "index"), (.str (Str.ofString "index") 717), (.int (1) 711)⟩, ⟨PyData.keyHash P (Str.ofString "__doc__"), (.str (Str.ofString "__doc__") 719), (.str (Str.ofString "Alias for field number 1") 712)⟩]) 2), List.toArray []⟩
def k198 (P : Params) : Obj := ⟨(.ref 131), (some 197), .plain, List.toArray []⟩
def k200 (P : Params) : Obj := ⟨(.type "dict"), none, (.dict (List.toArray [⟨PyData.keyHash P (Str.ofString "index"), (.str (Str.ofString "index") 727), (.int (2) 721)⟩, ⟨PyData.keyHash P (Str.ofString "__doc__"), (.str (Str.ofString "__doc__") 729), (.str (Str.ofString "Alias for field number 2") 722)⟩]) 2), List.toArray []⟩
def k201 (P : Params) : Obj := ⟨(.ref 131), (some 200), .plain, List.toArray []⟩
def k203 (P : Params) : Obj := ⟨(.type "tuple"), none, (.seq (List.toArray []) 0), List.toArray []⟩
def k205 (P : Params) : Obj := ⟨(.type "dict"), none, (.dict (List.toArray [⟨PyData.keyHash P (Str.ofString "__module__"), (.str (Str.ofString "__module__") 615), (.str (Str.ofString "cpy313.difflib") 549)⟩, ⟨PyData.keyHash P (Str.ofString "__firstlineno__"), (.str (Str.ofString "__firstlineno__") 619), (.int (145) 618)⟩, ⟨PyData.keyHash P (Str.ofString "__doc__"), (.str (Str.ofString "__doc__") 621), (.str (Str.ofString "Match(a, b, size)") 620)⟩, ⟨PyData.keyHash P (Str.ofString "__slots__"), (.str (Str.ofString "__slots__") 623), (.ref 144)⟩, ⟨PyData.keyHash P (Str.ofString "_fields"), (.str (Str.ofString "_fields") 627), (.ref 145)⟩, ⟨PyData.keyHash P (Str.ofString "_field_defaults"), (.str (Str.ofString "_field_defaults") 628), (.ref 146)⟩, ⟨PyData.keyHash P (Str.ofString "__new__"), (.str (Str.ofString "__new__") 639), (.ref 207)⟩, ⟨PyData.keyHash P (Str.ofString "_make"), (.str (Str.ofString "_make") 661), (.ref 162)⟩, ⟨PyData.keyHash P (Str.ofString "_replace"), (.str (Str.ofString "_replace") 672), (.ref 171)⟩, ⟨PyData.keyHash P (Str.ofString "__replace__"), (.str (Str.ofString "__replace__") 673), (.ref 171)⟩, ⟨PyData.keyHash P (Str.ofString "__repr__"), (.str (Str.ofString "__repr__") 681), (.ref 178)⟩, ⟨PyData.keyHash P (Str.ofString "_asdict"), (.str (Str.ofString "_asdict") 688), (.ref 185)⟩, ⟨PyData.keyHash P (Str.ofString "__getnewargs__"), (.str (Str.ofString "__getnewargs__") 696), (.ref 192)⟩, ⟨PyData.keyHash P (Str.ofString "__match_args__"), (.str (Str.ofString "__match_args__") 700), (.ref 193)⟩, ⟨PyData.keyHash P (Str.ofString "a"), (.str (Str.ofString "a") 710), (.ref 195)⟩, ⟨PyData.keyHash P (Str.ofString "b"), (.str (Str.ofString "b") 720), (.ref 198)⟩, ⟨PyData.keyHash P (Str.ofString "size"), (.str (Str.ofString "size") 730), (.ref 201)⟩, ⟨PyData.keyHash P (Str.ofString "__static_attributes__"), (.str (Str.ofString "__static_attributes__") 731), (.ref 203)⟩]) 2), List.toArray []⟩
def k206 (P : Params) : Obj := ⟨(.type "type"), none, (.cls { name := (Str.ofString "Match"), bases := [(.type "tuple")], mro := [(.ref 206), (.type "tuple"), (.type "object")], ns := 205, qualname := (Str.ofString "Match"), hasDict := false, slotNames := [], subclasses := [], abstract := false, collection := none, hasDel := false }), List.toArray [(some (.ref 136)), none, (some (.str (Str.ofString "Match") 608)), (some (.str (Str.ofString "Match") 616)), (some .none), (some (.bool false))]⟩
def k207 (P : Params) : Obj := ⟨(.type "staticmethod"), none, (.fields (List.toArray [(.ref 153)])), List.toArray []⟩
def k210 (P : Params) : Obj := ⟨(.type "tuple"), none, (.seq (List.toArray []) 0), List.toArray []⟩
def k212 (P : Params) : Obj := ⟨(.type "tuple"), none, (.seq (List.toArray [(.str (Str.ofString "matches") 739), (.str (Str.ofString "length") 740)]) 0), List.toArray []⟩
def k213 (P : Params) : Obj := ⟨(.type "tuple"), none, (.seq (List.toArray []) 0), List.toArray []⟩
def k215 (P : Params) : Obj := ⟨(.type "code"), none, (.fields (List.toArray [(.str (Str.ofString "_calculate_ratio") 736), (.str (Str.ofString "_calculate_ratio") 737), (.str (Str.ofString "/claim/cut.py") 738), (.int (188) 0), (.int (2) 0), (.int (0) 0), (.int (0) 0), (.int (3) 0), (.ref 210), (.bool true), (.int (276) 0), (.ref 211), .none, (.ref 212), (.ref 213), (.ref 214), (.int (741) 0), (.int (188) 0), (.str (Str.ofString "/claim/cut.py") 742)])), List.toArray []⟩
def k216 (P : Params) : Obj := ⟨(.type "function"), none, (.func (fnD (sAt 18) (Str.ofString "_calculate_ratio") .none .none .none (.str (Str.ofString "cpy313.difflib") 549) none (.ref 215) .none)), List.toArray []⟩
def k224 (P : Params) : Obj := ⟨(.type "tuple"), none, (.seq (List.toArray [.none, (.str (Str.ofString "") 759), (.str (Str.ofString "") 760), (.bool true)]) 0), List.toArray []⟩
def k225 (P : Params) : Obj := ⟨(.type "tuple"), none, (.seq (List.toArray []) 0), List.toArray []⟩
def k227 (P : Params) : Obj := ⟨(.type "tuple"), none, (.seq (List.toArray [(.str (Str.ofString "self") 764), (.str (Str.ofString "isjunk") 765), (.str (Str.ofString "a") 766), (.str (Str.ofString "b") 767), (.str (Str.ofString "autojunk") 768)]) 0), List.toArray []⟩
def k228 (P : Params) : Obj := ⟨(.type "tuple"), none, (.seq (List.toArray []) 0), List.toArray []⟩
def k230 (P : Params) : Obj := ⟨(.type "code"), none, (.fields (List.toArray [(.str (Str.ofString "__init__") 761), (.str (Str.ofString "SequenceMatcher.__init__") 762), (.str (Str.ofString "/claim/cut.py") 763), (.int (267) 0), (.int (5) 0), (.int (0) 0), (.int (0) 0), (.int (3) 0), (.ref 225), (.bool true), (.int (276) 0), (.ref 226), .none, (.ref 227), (.ref 228), (.ref 229), (.int (769) 0), (.int (267) 0), (.str (Str.ofString "/claim/cut.py") 770)])), List.toArray []⟩
def k231 (P : Params) : Obj := ⟨(.type "function"), none, (.func (fnD (cAt 19 1) (Str.ofString "SequenceMatcher.__init__") (.ref 224) .none (.str (docS (cAt 19 1)) 771) (.str (Str.ofString "cpy313.difflib") 549) none (.ref 230) .none)), List.toArray []⟩
def k232 (P : Params) : Obj := ⟨(.type "tuple"), none, (.seq (List.toArray []) 0), List.toArray []⟩
def k234 (P : Params) : Obj := ⟨(.type "tuple"), none, (.seq (List.toArray [(.str (Str.ofString "self") 776), (.str (Str.ofString "a") 777), (.str (Str.ofString "b") 778)]) 0), List.toArray []⟩
def k235 (P : Params) : Obj := ⟨(.type "tuple"), none, (.seq (List.toArray []) 0), List.toArray []⟩
def k237 (P : Params) : Obj := ⟨(.type "code"), none, (.fields (List.toArray [(.str (Str.ofString "set_seqs") 773), (.str (Str.ofString "SequenceMatcher.set_seqs") 774), (.str (Str.ofString "/claim/cut.py") 775), (.int (295) 0), (.int (3) 0), (.int (0) 0), (.int (0) 0), (.int (3) 0), (.ref 232), (.bool true), (.int (276) 0), (.ref 233), .none, (.ref 234), (.ref 235), (.ref 236), (.int (779) 0), (.int (295) 0), (.str (Str.ofString "/claim/cut.py") 780)])), List.toArray []⟩
def k238 (P : Params) : Obj := ⟨(.type "function"), none, (.func (fnD (cAt 19 2) (Str.ofString "SequenceMatcher.set_seqs") .none .none (.str (docS (cAt 19 2)) 781) (.str (Str.ofString "cpy313.difflib") 549) none (.ref 237) .none)), List.toArray []⟩
def k239 (P : Params) : Obj := ⟨(.type "tuple"), none, (.seq (List.toArray []) 0), List.toArray []⟩
def k241 (P : Params) : Obj := ⟨(.type "tuple"), none, (.seq (List.toArray [(.str (Str.ofString "self") 786), (.str (Str.ofString "a") 787)]) 0), List.toArray []⟩
def k242 (P : Params) : Obj := ⟨(.type "tuple"), none, (.seq (List.toArray []) 0), List.toArray []⟩
def k244 (P : Params) : Obj := ⟨(.type "code"), none, (.fields (List.toArray [(.str (Str.ofString "set_seq1") 783), (.str (Str.ofString "SequenceMatcher.set_seq1") 784), (.str (Str.ofString "/claim/cut.py") 785), (.int (306) 0), (.int (2) 0), (.int (0) 0), (.int (0) 0), (.int (3) 0), (.ref 239), (.bool true), (.int (276) 0), (.ref 240), .none, (.ref 241), (.ref 242), (.ref 243), (.int (788) 0), (.int (306) 0), (.str (Str.ofString "/claim/cut.py") 789)])), List.toArray []⟩
def k245 (P : Params) : Obj := ⟨(.type "function"), none, (.func (fnD (cAt 19 3) (Str.ofString "SequenceMatcher.set_seq1") .none .none (.str (docS (cAt 19 3)) 790) (.str (Str.ofString "cpy313.difflib") 549) none (.ref 244) .none)), List.toArray []⟩
def k246 (P : Params) : Obj := ⟨(.type "tuple"), none, (.seq (List.toArray []) 0), List.toArray []⟩
def k248 (P : Params) : Obj := ⟨(.type "tuple"), none, (.seq (List.toArray [(.str (Str.ofString "self") 795), (.str (Str.ofString "b") 796)]) 0), List.toArray []⟩
def k249 (P : Params) : Obj := ⟨(.type "tuple"), none, (.seq (List.toArray []) 0), List.toArray []⟩
def k251 (P : Params) : Obj := ⟨(.type "code"), none, (.fields (List.toArray [(.str (Str.ofString "set_seq2") 792), (.str (Str.ofString "SequenceMatcher.set_seq2") 793), (.str (Str.ofString "/claim/cut.py") 794), (.int (331) 0), (.int (2) 0), (.int (0) 0), (.int (0) 0), (.int (3) 0), (.ref 246), (.bool true), (.int (276) 0), (.ref 247), .none, (.ref 248), (.ref 249), (.ref 250), (.int (797) 0), (.int (331) 0), (.str (Str.ofString "/claim/cut.py") 798)])), List.toArray []⟩
def k252 (P : Params) : Obj := ⟨(.type "function"), none, (.func (fnD (cAt 19 4) (Str.ofString "SequenceMatcher.set_seq2") .none .none (.str (docS (cAt 19 4)) 799) (.str (Str.ofString "cpy313.difflib") 549) none (.ref 251) .none)), List.toArray []⟩
def k253 (P : Params) : Obj := ⟨(.type "tuple"), none, (.seq (List.toArray []) 0), List.toArray []⟩
def k255 (P : Params) : Obj := ⟨(.type "tuple"), none, (.seq (List.toArray [(.str (Str.ofString "self") 804), (.str (Str.ofString "b") 805), (.str (Str.ofString "b2j") 806), (.str (Str.ofString "i") 807), (.str (Str.ofString "elt") 808), (.str (Str.ofString "indices") 809), (.str (Str.ofString "junk") 810), (.str (Str.ofString "isjunk") 811), (.str (Str.ofString "popular") 812), (.str (Str.ofString "n") 813), (.str (Str.ofString "ntest") 814), (.str (Str.ofString "idxs") 815)]) 0), List.toArray []⟩
def k256 (P : Params) : Obj := ⟨(.type "tuple"), none, (.seq (List.toArray []) 0), List.toArray []⟩
def k258 (P : Params) : Obj := ⟨(.type "code"), none, (.fields (List.toArray [(.str (Str.ofString "__chain_b") 801), (.str (Str.ofString "SequenceMatcher.__chain_b") 802), (.str (Str.ofString "/claim/cut.py") 803), (.int (358) 0), (.int (1) 0), (.int (0) 0), (.int (0) 0), (.int (3) 0), (.ref 253), (.bool true), (.int (276) 0), (.ref 254), .none, (.ref 255), (.ref 256), (.ref 257), (.int (816) 0), (.int (358) 0), (.str (Str.ofString "/claim/cut.py") 817)])), List.toArray []⟩
def k259 (P : Params) : Obj := ⟨(.type "function"), none, (.func (fnD (cAt 19 5) (Str.ofString "SequenceMatcher.__chain_b") .none .none .none (.str (Str.ofString "cpy313.difflib") 549) none (.ref 258) .none)), List.toArray []⟩
def k260 (P : Params) : Obj := ⟨(.type "tuple"), none, (.seq (List.toArray [(.int (0) 819), .none, (.int (0) 820), .none]) 0), List.toArray []⟩
def k261 (P : Params) : Obj := ⟨(.type "tuple"), none, (.seq (List.toArray []) 0), List.toArray []⟩
def k263 (P : Params) : Obj := ⟨(.type "tuple"), none, (.seq (List.toArray [(.str (Str.ofString "self") 824), (.str (Str.ofString "alo") 825), (.str (Str.ofString "ahi") 826), (.str (Str.ofString "blo") 827), (.str (Str.ofString "bhi") 828), (.str (Str.ofString "a") 829), (.str (Str.ofString "b") 830), (.str (Str.ofString "b2j") 831), (.str (Str.ofString "isbjunk") 832), (.str (Str.ofString "besti") 833), (.str (Str.ofString "bestj") 834), (.str (Str.ofString "bestsize") 835), (.str (Str.ofString "j2len") 836), (.str (Str.ofString "nothing") 837), (.str (Str.ofString "i") 838), (.str (Str.ofString "j2lenget") 839), (.str (Str.ofString "newj2len") 840), (.str (Str.ofString "j") 841), (.str (Str.ofString "k") 842)]) 0), List.toArray []⟩
def k264 (P : Params) : Obj := ⟨(.type "tuple"), none, (.seq (List.toArray []) 0), List.toArray []⟩
def k266 (P : Params) : Obj := ⟨(.type "code"), none, (.fields (List.toArray [(.str (Str.ofString "find_longest_match") 821), (.str (Str.ofString "SequenceMatcher.find_longest_match") 822), (.str (Str.ofString "/claim/cut.py") 823), (.int (382) 0), (.int (5) 0), (.int (0) 0), (.int (0) 0), (.int (3) 0), (.ref 261), (.bool true), (.int (276) 0), (.ref 262), .none, (.ref 263), (.ref 264), (.ref 265), (.int (843) 0), (.int (382) 0), (.str (Str.ofString "/claim/cut.py") 844)])), List.toArray []⟩
def k267 (P : Params) : Obj := ⟨(.type "function"), none, (.func (fnD (cAt 19 6) (Str.ofString "SequenceMatcher.find_longest_match") (.ref 260) .none (.str (docS (cAt 19 6)) 845) (.str (Str.ofString "cpy313.difflib") 549) none (.ref 266) .none)), List.toArray []⟩
def k268 (P : Params) : Obj := ⟨(.type "tuple"), none, (.seq (List.toArray []) 0), List.toArray []⟩
def k270 (P : Params) : Obj := ⟨(.type "tuple"), none, (.seq (List.toArray [(.str (Str.ofString "self") 850), (.str (Str.ofString "la") 851), (.str (Str.ofString "lb") 852), (.str (Str.ofString "queue") 853), (.str (Str.ofString "matching_blocks") 854), (.str (Str.ofString "alo") 855), (.str (Str.ofString "ahi") 856), (.str (Str.ofString "blo") 857), (.str (Str.ofString "bhi") 858), (.str (Str.ofString "i") 859), (.str (Str.ofString "j") 860), (.str (Str.ofString "k") 861), (.str (Str.ofString "x") 862), (.str (Str.ofString "i1") 863), (.str (Str.ofString "j1") 864), (.str (Str.ofString "k1") 865), (.str (Str.ofString "non_adjacent") 866), (.str (Str.ofString "i2") 867), (.str (Str.ofString "j2") 868), (.str (Str.ofString "k2") 869)]) 0), List.toArray []⟩
def k271 (P : Params) : Obj := ⟨(.type "tuple"), none, (.seq (List.toArray []) 0), List.toArray []⟩
def k273 (P : Params) : Obj := ⟨(.type "code"), none, (.fields (List.toArray [(.str (Str.ofString "get_matching_blocks") 847), (.str (Str.ofString "SequenceMatcher.get_matching_blocks") 848), (.str (Str.ofString "/claim/cut.py") 849), (.int (457) 0), (.int (1) 0), (.int (0) 0), (.int (0) 0), (.int (3) 0), (.ref 268), (.bool true), (.int (276) 0), (.ref 269), .none, (.ref 270), (.ref 271), (.ref 272), (.int (870) 0), (.int (457) 0), (.str (Str.ofString "/claim/cut.py") 871)])), List.toArray []⟩
def k274 (P : Params) : Obj := ⟨(.type "function"), none, (.func (fnD (cAt 19 7) (Str.ofString "SequenceMatcher.get_matching_blocks") .none .none (.str (docS (cAt 19 7)) 872) (.str (Str.ofString "cpy313.difflib") 549) none (.ref 273) .none)), List.toArray []⟩
def k275 (P : Params) : Obj := ⟨(.type "tuple"), none, (.seq (List.toArray []) 0), List.toArray []⟩
def k277 (P : Params) : Obj := ⟨(.type "tuple"), none, (.seq (List.toArray [(.str (Str.ofString "self") 877)]) 0), List.toArray []⟩
def k278 (P : Params) : Obj := ⟨(.type "tuple"), none, (.seq (List.toArray []) 0), List.toArray []⟩
def k280 (P : Params) : Obj := ⟨(.type "code"), none, (.fields (List.toArray [(.str (Str.ofString "get_opcodes") 874), (.str (Str.ofString "SequenceMatcher.get_opcodes") 875), (.str (Str.ofString "/claim/cut.py") 876), (.int (505) 0), (.int (1) 0), (.int (0) 0), (.int (0) 0), (.int (3) 0), (.ref 275), (.bool true), (.int (276) 0), (.ref 276), .none, (.ref 277), (.ref 278), (.ref 279), (.int (878) 0), (.int (505) 0), (.str (Str.ofString "/claim/cut.py") 879)])), List.toArray []⟩
def k281 (P : Params) : Obj := ⟨(.type "function"), none, (.func (fnD (cAt 19 8) (Str.ofString "SequenceMatcher.get_opcodes") .none .none .none (.str (Str.ofString "cpy313.difflib") 549) none (.ref 280) .none)), List.toArray []⟩
def k282 (P : Params) : Obj := ⟨(.type "tuple"), none, (.seq (List.toArray [(.int (3) 881)]) 0), List.toArray []⟩
def k283 (P : Params) : Obj := ⟨(.type "tuple"), none, (.seq (List.toArray []) 0), List.toArray []⟩
def k285 (P : Params) : Obj := ⟨(.type "tuple"), none, (.seq (List.toArray [(.str (Str.ofString "self") 885), (.str (Str.ofString "n") 886)]) 0), List.toArray []⟩
def k286 (P : Params) : Obj := ⟨(.type "tuple"), none, (.seq (List.toArray []) 0), List.toArray []⟩
def k288 (P : Params) : Obj := ⟨(.type "code"), none, (.fields (List.toArray [(.str (Str.ofString "get_grouped_opcodes") 882), (.str (Str.ofString "SequenceMatcher.get_grouped_opcodes") 883), (.str (Str.ofString "/claim/cut.py") 884), (.int (508) 0), (.int (2) 0), (.int (0) 0), (.int (0) 0), (.int (3) 0), (.ref 283), (.bool true), (.int (276) 0), (.ref 284), .none, (.ref 285), (.ref 286), (.ref 287), (.int (887) 0), (.int (508) 0), (.str (Str.ofString "/claim/cut.py") 888)])), List.toArray []⟩
def k289 (P : Params) : Obj := ⟨(.type "function"), none, (.func (fnD (cAt 19 9) (Str.ofString "SequenceMatcher.get_grouped_opcodes") (.ref 282) .none .none (.str (Str.ofString "cpy313.difflib") 549) none (.ref 288) .none)), List.toArray []⟩
def k290 (P : Params) : Obj := ⟨(.type "tuple"), none, (.seq (List.toArray []) 0), List.toArray []⟩
def k292 (P : Params) : Obj := ⟨(.type "tuple"), none, (.seq (List.toArray [(.str (Str.ofString "self") 893), (.str (Str.ofString "matches") 894)]) 0), List.toArray []⟩
def k293 (P : Params) : Obj := ⟨(.type "tuple"), none, (.seq (List.toArray []) 0), List.toArray []⟩
def k295 (P : Params) : Obj := ⟨(.type "code"), none, (.fields (List.toArray [(.str (Str.ofString "ratio") 890), (.str (Str.ofString "SequenceMatcher.ratio") 891), (.str (Str.ofString "/claim/cut.py") 892), (.int (511) 0), (.int (1) 0), (.int (0) 0), (.int (0) 0), (.int (3) 0), (.ref 290), (.bool true), (.int (276) 0), (.ref 291), .none, (.ref 292), (.ref 293), (.ref 294), (.int (895) 0), (.int (511) 0), (.str (Str.ofString "/claim/cut.py") 896)])), List.toArray []⟩
def k296 (P : Params) : Obj := ⟨(.type "function"), none, (.func (fnD (cAt 19 10) (Str.ofString "SequenceMatcher.ratio") .none .none (.str (docS (cAt 19 10)) 897) (.str (Str.ofString "cpy313.difflib") 549) none (.ref 295) .none)), List.toArray []⟩
def k297 (P : Params) : Obj := ⟨(.type "tuple"), none, (.seq (List.toArray []) 0), List.toArray []⟩
def k299 (P : Params) : Obj := ⟨(.type "tuple"), none, (.seq (List.toArray [(.str (Str.ofString "self") 902)]) 0), List.toArray []⟩
def k300 (P : Params) : Obj := ⟨(.type "tuple"), none, (.seq (List.toArray []) 0), List.toArray []⟩
def k302 (P : Params) : Obj := ⟨(.type "code"), none, (.fields (List.toArray [(.str (Str.ofString "quick_ratio") 899), (.str (Str.ofString "SequenceMatcher.quick_ratio") 900), (.str (Str.ofString "/claim/cut.py") 901), (.int (535) 0), (.int (1) 0), (.int (0) 0), (.int (0) 0), (.int (3) 0), (.ref 297), (.bool true), (.int (276) 0), (.ref 298), .none, (.ref 299), (.ref 300), (.ref 301), (.int (903) 0), (.int (535) 0), (.str (Str.ofString "/claim/cut.py") 904)])), List.toArray []⟩
def k303 (P : Params) : Obj := ⟨(.type "function"), none, (.func (fnD (cAt 19 11) (Str.ofString "SequenceMatcher.quick_ratio") .none .none .none (.str (Str.ofString "cpy313.difflib") 549) none (.ref 302) .none)), List.toArray []⟩
def k304 (P : Params) : Obj := ⟨(.type "tuple"), none, (.seq (List.toArray []) 0), List.toArray []⟩
def k306 (P : Params) : Obj := ⟨(.type "tuple"), none, (.seq (List.toArray [(.str (Str.ofString "self") 909)]) 0), List.toArray []⟩
def k307 (P : Params) : Obj := ⟨(.type "tuple"), none, (.seq (List.toArray []) 0), List.toArray []⟩
def k309 (P : Params) : Obj := ⟨(.type "code"), none, (.fields (List.toArray [(.str (Str.ofString "real_quick_ratio") 906), (.str (Str.ofString "SequenceMatcher.real_quick_ratio") 907), (.str (Str.ofString "/claim/cut.py") 908), (.int (538) 0), (.int (1) 0), (.int (0) 0), (.int (0) 0), (.int (3) 0), (.ref 304), (.bool true), (.int (276) 0), (.ref 305), .none, (.ref 306), (.ref 307), (.ref 308), (.int (910) 0), (.int (538) 0), (.str (Str.ofString "/claim/cut.py") 911)])), List.toArray []⟩
def k310 (P : Params) : Obj := ⟨(.type "function"), none, (.func (fnD (cAt 19 12) (Str.ofString "SequenceMatcher.real_quick_ratio") .none .none .none (.str (Str.ofString "cpy313.difflib") 549) none (.ref 309) .none)), List.toArray []⟩
def k311 (P : Params) : Obj := ⟨(.type "tuple"), none, (.seq (List.toArray [(.str (Str.ofString "a") 913), (.str (Str.ofString "autojunk") 914), (.str (Str.ofString "b") 915), (.str (Str.ofString "b2j") 916), (.str (Str.ofString "bjunk") 917), (.str (Str.ofString "bpopular") 918), (.str (Str.ofString "fullbcount") 919), (.str (Str.ofString "isjunk") 920), (.str (Str.ofString "matching_blocks") 921), (.str (Str.ofString "opcodes") 922)]) 0), List.toArray []⟩
def k312 (P : Params) : Obj := ⟨(.type "dict"), none, (.dict (List.toArray [⟨PyData.keyHash P (Str.ofString "__module__"), (.str (Str.ofString "__module__") 751), (.str (Str.ofString "cpy313.difflib") 549)⟩, ⟨PyData.keyHash P (Str.ofString "__firstlineno__"), (.str (Str.ofString "__firstlineno__") 755), (.int (192) 754)⟩, ⟨PyData.keyHash P (Str.ofString "__doc__"), (.str (Str.ofString "__doc__") 757), (.str (Str.mk (Array.mk docNs)) 756)⟩, ⟨PyData.keyHash P (Str.ofString "__init__"), (.str (Str.ofString "__init__") 772), (.ref 231)⟩, ⟨PyData.keyHash P (Str.ofString "set_seqs"), (.str (Str.ofString "set_seqs") 782), (.ref 238)⟩, ⟨PyData.keyHash P (Str.ofString "set_seq1"), (.str (Str.ofString "set_seq1") 791), (.ref 245)⟩, ⟨PyData.keyHash P (Str.ofString "set_seq2"), (.str (Str.ofString "set_seq2") 800), (.ref 252)⟩, ⟨PyData.keyHash P (Str.ofString "_SequenceMatcher__chain_b"), (.str (Str.ofString "_SequenceMatcher__chain_b") 818), (.ref 259)⟩, ⟨PyData.keyHash P (Str.ofString "find_longest_match"), (.str (Str.ofString "find_longest_match") 846), (.ref 267)⟩, ⟨PyData.keyHash P (Str.ofString "get_matching_blocks"), (.str (Str.ofString "get_matching_blocks") 873), (.ref 274)⟩, ⟨PyData.keyHash P (Str.ofString "get_opcodes"), (.str (Str.ofString "get_opcodes") 880), (.ref 281)⟩, ⟨PyData.keyHash P (Str.ofString "get_grouped_opcodes"), (.str (Str.ofString "get_grouped_opcodes") 889), (.ref 289)⟩, ⟨PyData.keyHash P (Str.ofString "ratio"), (.str (Str.ofString "ratio") 898), (.ref 296)⟩, ⟨PyData.keyHash P (Str.ofString "quick_ratio"), (.str (Str.ofString "quick_ratio") 905), (.ref 303)⟩, ⟨PyData.keyHash P (Str.ofString "real_quick_ratio"), (.str (Str.ofString "real_quick_ratio") 912), (.ref 310)⟩, ⟨PyData.keyHash P (Str.ofString "__static_attributes__"), (.str (Str.ofString "__static_attributes__") 923), (.ref 311)⟩, ⟨PyData.keyHash P (Str.ofString "__dict__"), (.str (Str.ofString "__dict__") 925), (.ref 314)⟩, ⟨PyData.keyHash P (Str.ofString "__weakref__"), (.str (Str.ofString "__weakref__") 927), (.ref 315)⟩]) 3), List.toArray []⟩
def k313 (P : Params) : Obj := ⟨(.type "type"), none, (.cls { name := (Str.ofString "SequenceMatcher"), bases := [(.type "object")], mro := [(.ref 313), (.type "object")], ns := 312, qualname := (Str.ofString "SequenceMatcher"), hasDict := true, slotNames := [], subclasses := [], abstract := false, collection := none, hasDel := false }), List.toArray [none, none, (some (.str (Str.ofString "SequenceMatcher") 744)), (some (.str (Str.ofString "SequenceMatcher") 752)), (some (.builtin "object.__new__")), (some (.bool true))]⟩
def k314 (P : Params) : Obj := ⟨(.type "getset_descriptor"), none, (.fields (List.toArray [(.str (Str.ofString "__dict__") 924), (.ref 313), (.builtin "function.__dict__"), (.builtin "function.__dict__#set")])), List.toArray []⟩
def k315 (P : Params) : Obj := ⟨(.type "getset_descriptor"), none, (.fields (List.toArray [(.str (Str.ofString "__weakref__") 926), (.ref 313), (.builtin "ExceptionGroup.__weakref__"), .none])), List.toArray []⟩
def k318 (P : Params) : Obj := ⟨(.type "tuple"), none, (.seq (List.toArray []) 0), List.toArray []⟩
def k320 (P : Params) : Obj := ⟨(.type "tuple"), none, (.seq (List.toArray [(.str (Str.ofString "row") 935), (.str (Str.ofString "numbers") 936), (.str (Str.ofString "other") 937), (.str (Str.ofString "x") 938)]) 0), List.toArray []⟩
def k321 (P : Params) : Obj := ⟨(.type "tuple"), none, (.seq (List.toArray []) 0), List.toArray []⟩
def k323 (P : Params) : Obj := ⟨(.type "code"), none, (.fields (List.toArray [(.str (Str.ofString "_law_changed") 932), (.str (Str.ofString "_law_changed") 933), (.str (Str.ofString "/claim/cut.py") 934), (.int (541) 0), (.int (2) 0), (.int (0) 0), (.int (0) 0), (.int (3) 0), (.ref 318), (.bool true), (.int (276) 0), (.ref 319), .none, (.ref 320), (.ref 321), (.ref 322), (.int (939) 0), (.int (541) 0), (.str (Str.ofString "/claim/cut.py") 940)])), List.toArray []⟩
def k324 (P : Params) : Obj := ⟨(.type "function"), none, (.func (fnD (sAt 21) (Str.ofString "_law_changed") .none .none .none (.str (Str.ofString "law_ik0097_01") 930) none (.ref 323) .none)), List.toArray []⟩
def k325 (P : Params) : Obj := ⟨(.type "tuple"), none, (.seq (List.toArray []) 0), List.toArray []⟩
def k328 (P : Params) : Obj := ⟨(.type "code"), none, (.fields (List.toArray [(.str (Str.ofString "_law_coded") 942), (.str (Str.ofString "_law_coded") 943), (.str (Str.ofString "/claim/cut.py") 944), (.int (546) 0), (.int (1) 0), (.int (0) 0), (.int (0) 0), (.int (3) 0), (.ref 325), (.bool true), (.int (276) 0), (.ref 326), .none, .none, .none, (.ref 327), (.int (945) 0), (.int (546) 0), (.str (Str.ofString "/claim/cut.py") 946)])), List.toArray []⟩
def k329 (P : Params) : Obj := ⟨(.type "function"), none, (.func (fnD (sAt 22) (Str.ofString "_law_coded") .none .none .none (.str (Str.ofString "law_ik0097_01") 930) none (.ref 328) .none)), List.toArray []⟩
def k330 (P : Params) : Obj := ⟨(.type "tuple"), none, (.seq (List.toArray []) 0), List.toArray []⟩
def k332 (P : Params) : Obj := ⟨(.type "tuple"), none, (.seq (List.toArray [(.str (Str.ofString "first") 951), (.str (Str.ofString "second") 952), (.str (Str.ofString "best") 953), (.str (Str.ofString "i") 954), (.str (Str.ofString "j") 955), (.str (Str.ofString "size") 956)]) 0), List.toArray []⟩
def k333 (P : Params) : Obj := ⟨(.type "tuple"), none, (.seq (List.toArray []) 0), List.toArray []⟩
def k335 (P : Params) : Obj := ⟨(.type "code"), none, (.fields (List.toArray [(.str (Str.ofString "_law_longest") 948), (.str (Str.ofString "_law_longest") 949), (.str (Str.ofString "/claim/cut.py") 950), (.int (553) 0), (.int (2) 0), (.int (0) 0), (.int (0) 0), (.int (3) 0), (.ref 330), (.bool true), (.int (276) 0), (.ref 331), .none, (.ref 332), (.ref 333), (.ref 334), (.int (957) 0), (.int (553) 0), (.str (Str.ofString "/claim/cut.py") 958)])), List.toArray []⟩
def k336 (P : Params) : Obj := ⟨(.type "function"), none, (.func (fnD (sAt 23) (Str.ofString "_law_longest") .none .none .none (.str (Str.ofString "law_ik0097_01") 930) none (.ref 335) .none)), List.toArray []⟩
def k337 (P : Params) : Obj := ⟨(.type "tuple"), none, (.seq (List.toArray []) 0), List.toArray []⟩
def k339 (P : Params) : Obj := ⟨(.type "tuple"), none, (.seq (List.toArray [(.str (Str.ofString "first") 963), (.str (Str.ofString "second") 964), (.str (Str.ofString "i") 965), (.str (Str.ofString "j") 966), (.str (Str.ofString "x") 967), (.str (Str.ofString "y") 968), (.str (Str.ofString "size") 969), (.str (Str.ofString "behind") 970)]) 0), List.toArray []⟩
def k340 (P : Params) : Obj := ⟨(.type "tuple"), none, (.seq (List.toArray []) 0), List.toArray []⟩
def k342 (P : Params) : Obj := ⟨(.type "code"), none, (.fields (List.toArray [(.str (Str.ofString "_law_blocks") 960), (.str (Str.ofString "_law_blocks") 961), (.str (Str.ofString "/claim/cut.py") 962), (.int (563) 0), (.int (4) 0), (.int (0) 0), (.int (0) 0), (.int (3) 0), (.ref 337), (.bool true), (.int (276) 0), (.ref 338), .none, (.ref 339), (.ref 340), (.ref 341), (.int (971) 0), (.int (563) 0), (.str (Str.ofString "/claim/cut.py") 972)])), List.toArray []⟩
def k343 (P : Params) : Obj := ⟨(.type "function"), none, (.func (fnD (sAt 24) (Str.ofString "_law_blocks") .none .none .none (.str (Str.ofString "law_ik0097_01") 930) none (.ref 342) .none)), List.toArray []⟩
def k344 (P : Params) : Obj := ⟨(.type "tuple"), none, (.seq (List.toArray []) 0), List.toArray []⟩
def k346 (P : Params) : Obj := ⟨(.type "tuple"), none, (.seq (List.toArray [(.str (Str.ofString "first") 977), (.str (Str.ofString "second") 978), (.str (Str.ofString "blocks") 979), (.str (Str.ofString "pieces") 980), (.str (Str.ofString "both") 981), (.str (Str.ofString "i") 982), (.str (Str.ofString "j") 983), (.str (Str.ofString "x") 984), (.str (Str.ofString "y") 985), (.str (Str.ofString "size") 986)]) 0), List.toArray []⟩
def k347 (P : Params) : Obj := ⟨(.type "tuple"), none, (.seq (List.toArray []) 0), List.toArray []⟩
def k349 (P : Params) : Obj := ⟨(.type "code"), none, (.fields (List.toArray [(.str (Str.ofString "_law_joined") 974), (.str (Str.ofString "_law_joined") 975), (.str (Str.ofString "/claim/cut.py") 976), (.int (569) 0), (.int (3) 0), (.int (0) 0), (.int (0) 0), (.int (3) 0), (.ref 344), (.bool true), (.int (276) 0), (.ref 345), .none, (.ref 346), (.ref 347), (.ref 348), (.int (987) 0), (.int (569) 0), (.str (Str.ofString "/claim/cut.py") 988)])), List.toArray []⟩
def k350 (P : Params) : Obj := ⟨(.type "function"), none, (.func (fnD (sAt 25) (Str.ofString "_law_joined") .none .none .none (.str (Str.ofString "law_ik0097_01") 930) none (.ref 349) .none)), List.toArray []⟩
def k351 (P : Params) : Obj := ⟨(.type "tuple"), none, (.seq (List.toArray []) 0), List.toArray []⟩
def k354 (P : Params) : Obj := ⟨(.type "code"), none, (.fields (List.toArray [(.str (Str.ofString "_law_fits") 990), (.str (Str.ofString "_law_fits") 991), (.str (Str.ofString "/claim/cut.py") 992), (.int (579) 0), (.int (3) 0), (.int (0) 0), (.int (0) 0), (.int (3) 0), (.ref 351), (.bool true), (.int (276) 0), (.ref 352), .none, .none, .none, (.ref 353), (.int (993) 0), (.int (579) 0), (.str (Str.ofString "/claim/cut.py") 994)])), List.toArray []⟩
def k355 (P : Params) : Obj := ⟨(.type "function"), none, (.func (fnD (sAt 26) (Str.ofString "_law_fits") .none .none .none (.str (Str.ofString "law_ik0097_01") 930) none (.ref 354) .none)), List.toArray []⟩
def k356 (P : Params) : Obj := ⟨(.type "tuple"), none, (.seq (List.toArray []) 0), List.toArray []⟩
def k358 (P : Params) : Obj := ⟨(.type "tuple"), none, (.seq (List.toArray [(.str (Str.ofString "pieces") 999), (.str (Str.ofString "text") 1000), (.str (Str.ofString "last") 1001), (.str (Str.ofString "place") 1002), (.str (Str.ofString "piece") 1003), (.str (Str.ofString "found") 1004)]) 0), List.toArray []⟩
def k359 (P : Params) : Obj := ⟨(.type "tuple"), none, (.seq (List.toArray []) 0), List.toArray []⟩
def k361 (P : Params) : Obj := ⟨(.type "code"), none, (.fields (List.toArray [(.str (Str.ofString "_law_said") 996), (.str (Str.ofString "_law_said") 997), (.str (Str.ofString "/claim/cut.py") 998), (.int (587) 0), (.int (2) 0), (.int (0) 0), (.int (0) 0), (.int (3) 0), (.ref 356), (.bool true), (.int (276) 0), (.ref 357), .none, (.ref 358), (.ref 359), (.ref 360), (.int (1005) 0), (.int (587) 0), (.str (Str.ofString "/claim/cut.py") 1006)])), List.toArray []⟩
def k362 (P : Params) : Obj := ⟨(.type "function"), none, (.func (fnD (sAt 27) (Str.ofString "_law_said") .none .none .none (.str (Str.ofString "law_ik0097_01") 930) none (.ref 361) .none)), List.toArray []⟩
def k363 (P : Params) : Obj := ⟨(.type "tuple"), none, (.seq (List.toArray []) 0), List.toArray []⟩
def k366 (P : Params) : Obj := ⟨(.type "code"), none, (.fields (List.toArray [(.str (Str.ofString "law") 1008), (.str (Str.ofString "law") 1009), (.str (Str.ofString "/claim/cut.py") 1010), (.int (600) 0), (.int (1) 0), (.int (0) 0), (.int (0) 0), (.int (3) 0), (.ref 363), (.bool true), (.int (276) 0), (.ref 364), .none, .none, .none, (.ref 365), (.int (1011) 0), (.int (600) 0), (.str (Str.ofString "/claim/cut.py") 1012)])), List.toArray []⟩
def k367 (P : Params) : Obj := ⟨(.type "function"), none, (.func (fnD (sAt 28) (Str.ofString "law") .none .none .none (.str (Str.ofString "law_ik0097_01") 930) none (.ref 366) .none)), List.toArray []⟩
def Kx (P : Params) : Frag := (nat_lit 2, k2 P) :: (nat_lit 3, k3 P) :: (nat_lit 32, k32 P) :: (nat_lit 34, k34 P) :: (nat_lit 35, k35 P) :: (nat_lit 37, k37 P) :: (nat_lit 38, k38 P) :: (nat_lit 42, k42 P) :: (nat_lit 43, k43 P) :: (nat_lit 45, k45 P) :: (nat_lit 49, k49 P) :: (nat_lit 51, k51 P) :: (nat_lit 52, k52 P) :: (nat_lit 54, k54 P) :: (nat_lit 55, k55 P) :: (nat_lit 56, k56 P) :: (nat_lit 58, k58 P) :: (nat_lit 59, k59 P) :: (nat_lit 61, k61 P) :: (nat_lit 62, k62 P) :: (nat_lit 63, k63 P) :: (nat_lit 65, k65 P) :: (nat_lit 66, k66 P) :: (nat_lit 68, k68 P) :: (nat_lit 69, k69 P) :: (nat_lit 70, k70 P) :: (nat_lit 72, k72 P) :: (nat_lit 73, k73 P) :: (nat_lit 75, k75 P) :: (nat_lit 76, k76 P) :: (nat_lit 77, k77 P) :: (nat_lit 78, k78 P) :: (nat_lit 80, k80 P) :: (nat_lit 81, k81 P) :: (nat_lit 83, k83 P) :: (nat_lit 84, k84 P) :: (nat_lit 85, k85 P) :: (nat_lit 86, k86 P) :: (nat_lit 88, k88 P) :: (nat_lit 89, k89 P) :: (nat_lit 91, k91 P) :: (nat_lit 92, k92 P) :: (nat_lit 100, k100 P) :: (nat_lit 102, k102 P) :: (nat_lit 103, k103 P) :: (nat_lit 105, k105 P) :: (nat_lit 106, k106 P) :: (nat_lit 107, k107 P) :: (nat_lit 108, k108 P) :: (nat_lit 110, k110 P) :: (nat_lit 111, k111 P) :: (nat_lit 113, k113 P) :: (nat_lit 114, k114 P) :: (nat_lit 115, k115 P) :: (nat_lit 117, k117 P) :: (nat_lit 118, k118 P) :: (nat_lit 120, k120 P) :: (nat_lit 121, k121 P) :: (nat_lit 122, k122 P) :: (nat_lit 124, k124 P) :: (nat_lit 125, k125 P) :: (nat_lit 127, k127 P) :: (nat_lit 128, k128 P) :: (nat_lit 129, k129 P) :: (nat_lit 130, k130 P) :: (nat_lit 131, k131 P) :: (nat_lit 132, k132 P) :: (nat_lit 133, k133 P) :: (nat_lit 136, k136 P) :: (nat_lit 139, k139 P) :: (nat_lit 144, k144 P) :: (nat_lit 145, k145 P) :: (nat_lit 146, k146 P) :: (nat_lit 147, k147 P) :: (nat_lit 149, k149 P) :: (nat_lit 150, k150 P) :: (nat_lit 152, k152 P) :: (nat_lit 153, k153 P) :: (nat_lit 154, k154 P) :: (nat_lit 156, k156 P) :: (nat_lit 157, k157 P) :: (nat_lit 159, k159 P) :: (nat_lit 160, k160 P) :: (nat_lit 161, k161 P) :: (nat_lit 162, k162 P) :: (nat_lit 163, k163 P) :: (nat_lit 164, k164 P) :: (nat_lit 165, k165 P) :: (nat_lit 167, k167 P) :: (nat_lit 168, k168 P) :: (nat_lit 170, k170 P) :: (nat_lit 171, k171 P) :: (nat_lit 172, k172 P) :: (nat_lit 174, k174 P) :: (nat_lit 175, k175 P) :: (nat_lit 177, k177 P) :: (nat_lit 178, k178 P) :: (nat_lit 179, k179 P) :: (nat_lit 181, k181 P) :: (nat_lit 182, k182 P) :: (nat_lit 184, k184 P) :: (nat_lit 185, k185 P) :: (nat_lit 186, k186 P) :: (nat_lit 188, k188 P) :: (nat_lit 189, k189 P) :: (nat_lit 191, k191 P) :: (nat_lit 192, k192 P) :: (nat_lit 193, k193 P) :: (nat_lit 194, k194 P) :: (nat_lit 195, k195 P) :: (nat_lit 197, k197 P) :: (nat_lit 198, k198 P) :: (nat_lit 200, k200 P) :: (nat_lit 201, k201 P) :: (nat_lit 203, k203 P) :: (nat_lit 205, k205 P) :: (nat_lit 206, k206 P) :: (nat_lit 207, k207 P) :: (nat_lit 210, k210 P) :: (nat_lit 212, k212 P) :: (nat_lit 213, k213 P) :: (nat_lit 215, k215 P) :: (nat_lit 216, k216 P) :: (nat_lit 224, k224 P) :: (nat_lit 225, k225 P) :: (nat_lit 227, k227 P) :: (nat_lit 228, k228 P) :: (nat_lit 230, k230 P) :: (nat_lit 231, k231 P) :: (nat_lit 232, k232 P) :: (nat_lit 234, k234 P) :: (nat_lit 235, k235 P) :: (nat_lit 237, k237 P) :: (nat_lit 238, k238 P) :: (nat_lit 239, k239 P) :: (nat_lit 241, k241 P) :: (nat_lit 242, k242 P) :: (nat_lit 244, k244 P) :: (nat_lit 245, k245 P) :: (nat_lit 246, k246 P) :: (nat_lit 248, k248 P) :: (nat_lit 249, k249 P) :: (nat_lit 251, k251 P) :: (nat_lit 252, k252 P) :: (nat_lit 253, k253 P) :: (nat_lit 255, k255 P) :: (nat_lit 256, k256 P) :: (nat_lit 258, k258 P) :: (nat_lit 259, k259 P) :: (nat_lit 260, k260 P) :: (nat_lit 261, k261 P) :: (nat_lit 263, k263 P) :: (nat_lit 264, k264 P) :: (nat_lit 266, k266 P) :: (nat_lit 267, k267 P) :: (nat_lit 268, k268 P) :: (nat_lit 270, k270 P) :: (nat_lit 271, k271 P) :: (nat_lit 273, k273 P) :: (nat_lit 274, k274 P) :: (nat_lit 275, k275 P) :: (nat_lit 277, k277 P) :: (nat_lit 278, k278 P) :: (nat_lit 280, k280 P) :: (nat_lit 281, k281 P) :: (nat_lit 282, k282 P) :: (nat_lit 283, k283 P) :: (nat_lit 285, k285 P) :: (nat_lit 286, k286 P) :: (nat_lit 288, k288 P) :: (nat_lit 289, k289 P) :: (nat_lit 290, k290 P) :: (nat_lit 292, k292 P) :: (nat_lit 293, k293 P) :: (nat_lit 295, k295 P) :: (nat_lit 296, k296 P) :: (nat_lit 297, k297 P) :: (nat_lit 299, k299 P) :: (nat_lit 300, k300 P) :: (nat_lit 302, k302 P) :: (nat_lit 303, k303 P) :: (nat_lit 304, k304 P) :: (nat_lit 306, k306 P) :: (nat_lit 307, k307 P) :: (nat_lit 309, k309 P) :: (nat_lit 310, k310 P) :: (nat_lit 311, k311 P) :: (nat_lit 312, k312 P) :: (nat_lit 313, k313 P) :: (nat_lit 314, k314 P) :: (nat_lit 315, k315 P) :: (nat_lit 318, k318 P) :: (nat_lit 320, k320 P) :: (nat_lit 321, k321 P) :: (nat_lit 323, k323 P) :: (nat_lit 324, k324 P) :: (nat_lit 325, k325 P) :: (nat_lit 328, k328 P) :: (nat_lit 329, k329 P) :: (nat_lit 330, k330 P) :: (nat_lit 332, k332 P) :: (nat_lit 333, k333 P) :: (nat_lit 335, k335 P) :: (nat_lit 336, k336 P) :: (nat_lit 337, k337 P) :: (nat_lit 339, k339 P) :: (nat_lit 340, k340 P) :: (nat_lit 342, k342 P) :: (nat_lit 343, k343 P) :: (nat_lit 344, k344 P) :: (nat_lit 346, k346 P) :: (nat_lit 347, k347 P) :: (nat_lit 349, k349 P) :: (nat_lit 350, k350 P) :: (nat_lit 351, k351 P) :: (nat_lit 354, k354 P) :: (nat_lit 355, k355 P) :: (nat_lit 356, k356 P) :: (nat_lit 358, k358 P) :: (nat_lit 359, k359 P) :: (nat_lit 361, k361 P) :: (nat_lit 362, k362 P) :: (nat_lit 363, k363 P) :: (nat_lit 366, k366 P) :: (nat_lit 367, k367 P) :: []
def kAs : List Addr := nat_lit 2 :: nat_lit 3 :: nat_lit 32 :: nat_lit 34 :: nat_lit 35 :: nat_lit 37 :: nat_lit 38 :: nat_lit 42 :: nat_lit 43 :: nat_lit 45 :: nat_lit 49 :: nat_lit 51 :: nat_lit 52 :: nat_lit 54 :: nat_lit 55 :: nat_lit 56 :: nat_lit 58 :: nat_lit 59 :: nat_lit 61 :: nat_lit 62 :: nat_lit 63 :: nat_lit 65 :: nat_lit 66 :: nat_lit 68 :: nat_lit 69 :: nat_lit 70 :: nat_lit 72 :: nat_lit 73 :: nat_lit 75 :: nat_lit 76 :: nat_lit 77 :: nat_lit 78 :: nat_lit 80 :: nat_lit 81 :: nat_lit 83 :: nat_lit 84 :: nat_lit 85 :: nat_lit 86 :: nat_lit 88 :: nat_lit 89 :: nat_lit 91 :: nat_lit 92 :: nat_lit 100 :: nat_lit 102 :: nat_lit 103 :: nat_lit 105 :: nat_lit 106 :: nat_lit 107 :: nat_lit 108 :: nat_lit 110 :: nat_lit 111 :: nat_lit 113 :: nat_lit 114 :: nat_lit 115 :: nat_lit 117 :: nat_lit 118 :: nat_lit 120 :: nat_lit 121 :: nat_lit 122 :: nat_lit 124 :: nat_lit 125 :: nat_lit 127 :: nat_lit 128 :: nat_lit 129 :: nat_lit 130 :: nat_lit 131 :: nat_lit 132 :: nat_lit 133 :: nat_lit 136 :: nat_lit 139 :: nat_lit 144 :: nat_lit 145 :: nat_lit 146 :: nat_lit 147 :: nat_lit 149 :: nat_lit 150 :: nat_lit 152 :: nat_lit 153 :: nat_lit 154 :: nat_lit 156 :: nat_lit 157 :: nat_lit 159 :: nat_lit 160 :: nat_lit 161 :: nat_lit 162 :: nat_lit 163 :: nat_lit 164 :: nat_lit 165 :: nat_lit 167 :: nat_lit 168 :: nat_lit 170 :: nat_lit 171 :: nat_lit 172 :: nat_lit 174 :: nat_lit 175 :: nat_lit 177 :: nat_lit 178 :: nat_lit 179 :: nat_lit 181 :: nat_lit 182 :: nat_lit 184 :: nat_lit 185 :: nat_lit 186 :: nat_lit 188 :: nat_lit 189 :: nat_lit 191 :: nat_lit 192 :: nat_lit 193 :: nat_lit 194 :: nat_lit 195 :: nat_lit 197 :: nat_lit 198 :: nat_lit 200 :: nat_lit 201 :: nat_lit 203 :: nat_lit 205 :: nat_lit 206 :: nat_lit 207 :: nat_lit 210 :: nat_lit 212 :: nat_lit 213 :: nat_lit 215 :: nat_lit 216 :: nat_lit 224 :: nat_lit 225 :: nat_lit 227 :: nat_lit 228 :: nat_lit 230 :: nat_lit 231 :: nat_lit 232 :: nat_lit 234 :: nat_lit 235 :: nat_lit 237 :: nat_lit 238 :: nat_lit 239 :: nat_lit 241 :: nat_lit 242 :: nat_lit 244 :: nat_lit 245 :: nat_lit 246 :: nat_lit 248 :: nat_lit 249 :: nat_lit 251 :: nat_lit 252 :: nat_lit 253 :: nat_lit 255 :: nat_lit 256 :: nat_lit 258 :: nat_lit 259 :: nat_lit 260 :: nat_lit 261 :: nat_lit 263 :: nat_lit 264 :: nat_lit 266 :: nat_lit 267 :: nat_lit 268 :: nat_lit 270 :: nat_lit 271 :: nat_lit 273 :: nat_lit 274 :: nat_lit 275 :: nat_lit 277 :: nat_lit 278 :: nat_lit 280 :: nat_lit 281 :: nat_lit 282 :: nat_lit 283 :: nat_lit 285 :: nat_lit 286 :: nat_lit 288 :: nat_lit 289 :: nat_lit 290 :: nat_lit 292 :: nat_lit 293 :: nat_lit 295 :: nat_lit 296 :: nat_lit 297 :: nat_lit 299 :: nat_lit 300 :: nat_lit 302 :: nat_lit 303 :: nat_lit 304 :: nat_lit 306 :: nat_lit 307 :: nat_lit 309 :: nat_lit 310 :: nat_lit 311 :: nat_lit 312 :: nat_lit 313 :: nat_lit 314 :: nat_lit 315 :: nat_lit 318 :: nat_lit 320 :: nat_lit 321 :: nat_lit 323 :: nat_lit 324 :: nat_lit 325 :: nat_lit 328 :: nat_lit 329 :: nat_lit 330 :: nat_lit 332 :: nat_lit 333 :: nat_lit 335 :: nat_lit 336 :: nat_lit 337 :: nat_lit 339 :: nat_lit 340 :: nat_lit 342 :: nat_lit 343 :: nat_lit 344 :: nat_lit 346 :: nat_lit 347 :: nat_lit 349 :: nat_lit 350 :: nat_lit 351 :: nat_lit 354 :: nat_lit 355 :: nat_lit 356 :: nat_lit 358 :: nat_lit 359 :: nat_lit 361 :: nat_lit 362 :: nat_lit 363 :: nat_lit 366 :: nat_lit 367 :: []
theorem kAs_eq (P : Params) : kAs = (Kx P).map (·.1) := rfl
end Mine
end
section
open PySem PySem.W PyProof.Rows
set_option Elab.async false
set_option maxRecDepth 100000
namespace Mine
noncomputable def full (p : Program) (x : Shared × SharedT) := (look1 p x, PySem.W.Fast.tw4187177175401517315 vw ls (importedModules pw.main.body) Xt true x.2.abs, kAs.map x.2.abs.heap.get?)
noncomputable def good (w : World) := (true, openGood vw ls, (Kx w.params).map fun p => some p.2)
theorem lk00 (w : World) : (pipe pwQ (fix false false w)).map (full pwQ) = some (good (fix false false w)) := by kernel_rfl
theorem lk01 (w : World) : (pipe pwQ (fix false true w)).map (full pwQ) = some (good (fix false true w)) := by kernel_rfl
theorem lk10 (w : World) : (pipe pwQ (fix true false w)).map (full pwQ) = some (good (fix true false w)) := by kernel_rfl
theorem lk11 (w : World) : (pipe pwQ (fix true true w)).map (full pwQ) = some (good (fix true true w)) := by kernel_rfl
theorem lk (w : World) : (pipe pw w).map (full pw) = some (good w) := by
  have h : ∀ w, (pipe pwQ w).map (full pwQ) = some (good w) :=
    byRow2 "special-get-raises" (P := fun w => (pipe pwQ w).map (full pwQ) = some (good w))
      (byRow2 "comprehension-iter-twice" (P := fun w => (pipe pwQ (w.withFollow "special-get-raises" false)).map (full pwQ) = some (good (w.withFollow "special-get-raises" false))) lk00 lk10)
      (byRow2 "comprehension-iter-twice" (P := fun w => (pipe pwQ (w.withFollow "special-get-raises" true)).map (full pwQ) = some (good (w.withFollow "special-get-raises" true))) lk01 lk11)
  rw [pwQ_eq] at h
  exact h w
def Yf (s : Shared) : List (Option Obj) := kAs.map s.heap.get?
def Ya (w : World) : List (Option Obj) := (Kx w.params).map fun p => some p.2
theorem left : LeftO pw vw ls Xt Yf Ya N := fun w => by
  obtain ⟨⟨s0, s⟩, e, e'⟩ := Option.map_eq_some_iff.mp (lk w)
  obtain ⟨h1, h2, h3⟩ := pipe_of e
  unfold full good at e'
  obtain ⟨l1, l2⟩ := Prod.mk.inj e'
  obtain ⟨l2, l3⟩ := Prod.mk.inj l2
  rw [← PySem.W.Fast.te4187177175401517315] at l2
  unfold look1 at l1
  have t : topFrom treeTable pw w N s0 = some s.abs := by
    unfold topFrom
    rw [h2]
    dsimp only
    rw [h3]
    show (match staticsOk (importedModules pw.main.body) s0.heap s.abs.heap && namesBound pw s.abs.heap && gensDone s.abs && laidKept s0.heap s.abs.heap with | true => _ | false => _) = _
    rw [l1]
  unfold openEnds
  rw [h1]
  show (topFrom treeTable pw w N s0).map _ = _
  rw [t]
  exact congrArg some (Prod.ext l2 l3)
end Mine
end
section
open PySem PySem.W PySem.Calls PySem.Spec PyProof.Rows PyProof.V
set_option Elab.async false
set_option maxRecDepth 100000
namespace Mine
section
variable {prog : Program} {w : World} {A : Around} {E : Value → Shared → Prop} {s : Shared} {env : Env} {h₀ : Heap} {x : Str} {body : List Stmt} {Q : Flow → Shared → Prop}

theorem iter_rangeG {r : Addr} {a₀ b₀ : Int} {t₀ u₀ v₀ : Tok} {n : Nat} {m₀ : Str → Option Value} {news : List (Addr × Obj)} (J : Nat → (Str → Option Value) → List (Addr × Obj) → Prop)
    (hh : A.handled = none) (hr : IsRange s.heap r a₀ b₀ 1 t₀ u₀ v₀) (hsmall : Builtin.Range.small a₀ b₀ 1 = true) (hn : Builtin.Range.rangeSize a₀ b₀ 1 = (n : Int)) (F : Fr h₀ env.locals s.heap m₀) (N : News h₀ env.locals s.heap news) (hj : J 0 m₀ news)
    (turn : ∀ i t m₁ news₁ h tk own, i < n → OwnOff own (news₁.map (·.1)) → J i m₁ news₁ → Fr h₀ env.locals h (fun y => if y = x then some (.int (a₀ + (i : Int)) t) else m₁ y) → News h₀ env.locals h (news₁ ++ own) →
      wpAny (model prog w) A (execs body env) (InvPostG h₀ env.locals (J (i + 1)) own { s with heap := h, toks := tk } Q) E { s with heap := h, toks := tk })
    (done : ∀ m₁ news₁ h tk, J n m₁ news₁ → Fr h₀ env.locals h m₁ → News h₀ env.locals h news₁ → Q .next { s with heap := h, toks := tk }) :
    wpAny (model prog w) A (pyIter (.ref r)) (fun it s₂ => LoopAtV prog w A h₀ env x body Q E it s₂) E s := by
  refine wpAny_pyIter_range hr hsmall ?_
  have W : Walks prog w A s.heap.objs.size [s.heap.objs.size] [s.heap.objs.size] n (fun i v => i < n ∧ ∃ t, v = .int (a₀ + i * 1) t)
      (fun i h => IsRangeIter h s.heap.objs.size (a₀ + (i : Nat) * 1) ((n : Int) - (i : Nat)) 1) := (Walks.range hh _ a₀ 1 n).bound
  refine ⟨_, _, _, n, _, _, m₀, news, J, rfl, W, ?_, ?_, ?_, (by show IsRangeIter _ _ _ _ _; rw [hn]; simpa using Heap.get?_push_size _ rfl), F.push _, (fun p hp => ⟨Heap.get?_push_of_some _ (N p hp).1, (N p hp).2⟩), hj, ?_, ?_⟩
  · intro hm
    exact absurd F.ns.lt ((List.mem_singleton.mp hm) ▸ Nat.lt_irrefl _)
  · intro b hb
    rw [List.mem_singleton.mp hb]
    exact next_is_new F
  · intro p hp hI
    exact absurd (Heap.lt_size (N p hp).1) ((List.mem_singleton.mp hI) ▸ Nat.lt_irrefl _)
  · rintro i v m₁ news₁ s₁ own ⟨hh', tk', rfl⟩ hin hP hJ hoff hown _ hfp hst F₁ N₁
    have hI0 : h₀.get? s.heap.objs.size = none := next_is_new F
    have hst' : IsRangeIter hh' s.heap.objs.size (a₀ + ((i + 1 : Nat) : Int) * 1) ((n : Int) - ((i + 1 : Nat) : Int)) 1 := hst
    have hoI := hst'
    unfold IsRangeIter at hoI
    have hIown := hfp _ (List.mem_cons.mpr (.inl rfl)) hI0 _ hoI
    have hsep : OwnOff own (news₁.map (·.1)) := by
      intro p hp b hb e
      obtain ⟨q, hq, rfl⟩ := List.mem_map.mp hb
      exact hoff q hq (List.mem_singleton.mpr (e ▸ List.mem_singleton.mp (hown p hp)))
    obtain ⟨_, t, rfl⟩ := hP
    have e1 : a₀ + (i : Int) * 1 = a₀ + (i : Int) := by omega
    rw [e1] at F₁
    have N₂ : News h₀ env.locals hh' (news₁ ++ own) := fun p hp => N₁ p ((List.mem_append.mp hp).elim (fun h => List.mem_append.mpr (.inr h)) fun h => List.mem_append.mpr (.inl h))
    refine wpAny_mono (turn i t m₁ news₁ hh' tk' own hin hsep hJ F₁ N₂) (fun f s₂ p => ?_) fun _ _ e => e
    have fin : InvEndG h₀ env.locals (J (i + 1)) own { s with heap := hh', toks := tk' } s₂ → LoopStepU h₀ env.locals [s.heap.objs.size] own (J (i + 1)) { s with heap := hh', toks := tk' } .next s₂ := by
      rintro ⟨h', tk, m', news', nx, e, F', N', hn, ho, ha, hm⟩
      refine ⟨rfl, h', tk, m', nx, e, F', fun p hp => N' p ((List.mem_append.mp hp).elim (ho p) (hn p)), fun p hp hq => ?_, hm⟩
      exact ha _ hIown p.1 (List.mem_map.mpr ⟨p, hp, rfl⟩) (List.mem_singleton.mp hq).symm
    cases f with
    | ret v => exact .ret p
    | brk => exact .brk p
    | next => exact .next (fin p)
    | cont => exact .cont (fin p)
  · rintro h' tk m' news' F' N' _ hJ
    exact done m' news' h' tk hJ F' N'
end
end Mine
end
section
open PySem PySem.W PySem.Calls PySem.Spec PyProof.Rows
set_option Elab.async false
namespace Mine
structure Stop (P : Prop) : Prop where
  h : P
theorem stop_of {P : Prop} (h : Stop P) : P := h.h
theorem wpAny_stop {α : Type} {M : Model} {A : Around} {c : Sem α} {Q : α → Shared → Prop} {E : Value → Shared → Prop} {s : Shared} (h : wpAny M A c (fun v s => Stop (Q v s)) E s) : wpAny M A c Q E s :=
  wpAny_mono h (fun _ _ p => p.h) fun _ _ e => e
theorem stop_if {c : Prop} [Decidable c] {P R : Prop} (h1 : c → Stop P) (h2 : ¬ c → Stop R) : Stop (if c then P else R) := by
  by_cases h : c
  · rw [if_pos h]; exact h1 h
  · rw [if_neg h]; exact h2 h
theorem stop_wp {α : Type} {M : Model} {A : Around} {c : Sem α} {Q : α → Shared → Prop} {E : Value → Shared → Prop} {s : Shared} (h : wpAny M A c (fun v s => Stop (Q v s)) E s) : Stop (wpAny M A c Q E s) := ⟨wpAny_stop h⟩
end Mine
end
section
open PySem PySem.W PySem.Calls PySem.Spec PyProof.Rows
set_option Elab.async false
namespace Mine
theorem fr_as {h₀ : Heap} {L : Addr} {h : Heap} {m m' : Str → Option Value} (F : Fr h₀ L h m) (e : ∀ y, m y = m' y) : Fr h₀ L h m' := by
  have q : m = m' := funext e
  exact q ▸ F
theorem lk_nil (y : Str) : List.lookup y ([] : List (Str × Value)) = none := rfl
theorem lk_cons (y k : Str) (v : Value) (l : List (Str × Value)) : List.lookup y ((k, v) :: l) = if y = k then some v else List.lookup y l := by
  rw [List.lookup_cons]
  by_cases h : y = k
  · simp [h]
  · have : (y == k) = false := by simp [h]
    rw [this, if_neg h]
theorem ifs_of_lk {m : Str → Option Value} {l : List (Str × Value)} (e : ∀ y, m y = List.lookup y l) : ∀ y, m y = List.lookup y l := e

/-- the length of the longest common start -/
def lcp : List Nat → List Nat → Nat
  | a :: x, b :: y => if a = b then lcp x y + 1 else 0
  | _, _ => 0
def better (f g : List Nat) (i j : Nat) (b : Nat × Nat × Nat) : Nat × Nat × Nat :=
  if lcp (f.drop i) (g.drop j) > b.2.2 then (i, j, lcp (f.drop i) (g.drop j)) else b
def row (f g : List Nat) (i n : Nat) (b : Nat × Nat × Nat) : Nat × Nat × Nat := (List.range n).foldl (fun b j => better f g i j b) b
def rows (f g : List Nat) (n : Nat) : Nat × Nat × Nat := (List.range n).foldl (fun b i => row f g i g.length b) (0, 0, 0)
def longest (f g : List Nat) : Nat × Nat × Nat := rows f g f.length
theorem row_succ (f g : List Nat) (i n : Nat) (b : Nat × Nat × Nat) : row f g i (n + 1) b = better f g i n (row f g i n b) := by
  unfold row; rw [List.range_succ, List.foldl_append]; rfl
theorem rows_succ (f g : List Nat) (n : Nat) : rows f g (n + 1) = row f g n g.length (rows f g n) := by
  unfold rows; rw [List.range_succ, List.foldl_append]; rfl
def tup3 (b : Nat × Nat × Nat) (x y z : Tok) : Obj := { cls := .type "tuple", data := .seq #[.int b.1 x, .int b.2.1 y, .int b.2.2 z] }
end Mine
end
section
open PySem PySem.W PySem.Calls PySem.Spec PyProof PyProof.Rows PySem.Builtin PySem.Builtin.Str
set_option Elab.async false
namespace Mine
theorem indices_clamp {n : Nat} {i j : Int} (hi : 0 ≤ i) (hj : 0 ≤ j) : strSliceIndices (some i) (some j) 1 n = strSliceIndices (some (min i n)) (some (min j n)) 1 n := by
  have h0 : ¬ i < 0 := by omega
  have h1 : ¬ j < 0 := by omega
  have h2 : (1 : Int) > 0 := by decide
  have h3 : ¬ min i (n : Int) < 0 := by omega
  have h4 : ¬ min j (n : Int) < 0 := by omega
  have h5 : min (min i (n : Int)) n = min i n := by omega
  have h6 : min (min j (n : Int)) n = min j n := by omega
  simp only [strSliceIndices, h0, h1, h2, h3, h4, if_false, if_true, h5, h6]

theorem slice_ij (x : Str) (i j : Nat) (h : i ≤ j) : Txt.slice x (some (i : Int)) (some (j : Int)) = ⟨((x.cps.toList.drop i).take (j - i)).toArray⟩ := by
  have e : Txt.slice x (some (i : Int)) (some (j : Int)) = Txt.slice x (some (min (i : Int) x.length)) (some (min (j : Int) x.length)) := by
    unfold Txt.slice
    rw [indices_clamp (by omega) (by omega)]
  have hl : x.length = x.cps.toList.length := by simp [Str.length]
  rw [e]
  have q := beq_iff_eq.mp (slice_closes (x := x) (i := min (i : Int) x.length) (j := min (j : Int) x.length) ⟨by omega, by omega, by omega⟩)
  rw [q]
  have e1 : (min (i : Int) x.length).toNat = min i x.cps.toList.length := by omega
  have e2 : (min (j : Int) x.length - min (i : Int) x.length).toNat = min j x.cps.toList.length - min i x.cps.toList.length := by omega
  rw [e1, e2]
  congr 2
  by_cases hi : i ≤ x.cps.toList.length
  · rw [Nat.min_eq_left hi]
    by_cases hj : j ≤ x.cps.toList.length
    · rw [Nat.min_eq_left hj]
    · rw [Nat.min_eq_right (show x.cps.toList.length ≤ j by omega), List.take_of_length_le (by rw [List.length_drop]; omega), List.take_of_length_le (by rw [List.length_drop]; omega)]
  · rw [Nat.min_eq_right (by omega : x.cps.toList.length ≤ i), List.drop_of_length_le (Nat.le_refl _), List.drop_of_length_le (by omega)]; simp

theorem empty_str : Str.ofString "" = (⟨#[]⟩ : Str) := rfl
theorem sh1 {α : Type} (x : Str) (a b : α) (r : Str → α) (y : Str) : (if y = x then a else if y = x then b else r y) = (if y = x then a else r y) := by
  by_cases h : y = x
  · rw [if_pos h, if_pos h]
  · rw [if_neg h, if_neg h, if_neg h]
theorem fr_sh {h₀ : Heap} {L : Addr} {h : Heap} {x : Str} {a b : Option Value} {r : Str → Option Value} (F : Fr h₀ L h (fun y => if y = x then a else if y = x then b else r y)) : Fr h₀ L h (fun y => if y = x then a else r y) :=
  fr_as F fun y => sh1 x a b r y
theorem str_ext {x y : Str} (h : x.cps.toList = y.cps.toList) : x = y := by
  cases x; cases y; simp only [Str.mk.injEq]; exact Array.toList_inj.mp h

theorem slice_one (x : Str) (i : Nat) : (Txt.slice x (some (i : Int)) (some ((i : Int) + 1))).cps.toList = (x.cps.toList[i]?).toList := by
  have := slice_ij x i (i + 1) (by omega)
  rw [show ((i + 1 : Nat) : Int) = (i : Int) + 1 by omega] at this
  rw [this]
  simp only [Nat.add_sub_cancel_left]
  by_cases hi : i < x.cps.toList.length
  · rw [List.drop_eq_getElem_cons hi, List.getElem?_eq_getElem hi]; simp
  · rw [List.drop_of_length_le (by omega), List.getElem?_eq_none (by omega)]; simp

theorem lcp_at : ∀ (k : Nat) (x y : List Nat), k ≤ lcp x y → (k < lcp x y ↔ ∃ c, x[k]? = some c ∧ y[k]? = some c)
  | 0, [], y, _ => by simp [lcp]
  | 0, a :: x, [], _ => by simp [lcp]
  | 0, a :: x, b :: y, _ => by
    simp only [lcp]
    split
    · rename_i h; subst h; simp
    · rename_i h; simp; exact fun e => h e.symm
  | k + 1, [], y, h => by simp [lcp] at h
  | k + 1, a :: x, [], h => by simp [lcp] at h
  | k + 1, a :: x, b :: y, h => by
    simp only [lcp] at h ⊢
    split at h
    · rename_i e
      rw [if_pos e]
      have := lcp_at k x y (by omega)
      simp only [List.getElem?_cons_succ]
      rw [← this]; omega
    · omega

theorem lcp_le : ∀ (x y : List Nat), lcp x y ≤ x.length ∧ lcp x y ≤ y.length
  | [], y => by simp [lcp]
  | a :: x, [] => by simp [lcp]
  | a :: x, b :: y => by
    have := lcp_le x y
    simp only [lcp, List.length_cons]
    split <;> omega

/-- the while's test, both halves true -/
theorem more_of {f g : Str} {i j k : Nat} (hk : k ≤ lcp (f.cps.toList.drop i) (g.cps.toList.drop j))
    (h1 : (Txt.slice f (some ((i : Int) + k)) (some ((i : Int) + k + 1)) == Txt.slice g (some ((j : Int) + k)) (some ((j : Int) + k + 1))) = true)
    (h2 : (Txt.slice g (some ((j : Int) + k)) (some ((j : Int) + k + 1)) != Str.ofString "") = true) : k < lcp (f.cps.toList.drop i) (g.cps.toList.drop j) := by
  rw [lcp_at _ _ _ hk]
  have a1 := slice_one f (i + k); have a2 := slice_one g (j + k)
  rw [show ((i + k : Nat) : Int) = (i : Int) + k by omega] at a1
  rw [show ((j + k : Nat) : Int) = (j : Int) + k by omega] at a2
  have e := beq_iff_eq.mp h1
  rw [e, a2] at a1
  simp only [List.getElem?_drop]
  cases hg : g.cps.toList[j + k]? with
  | none =>
    rw [hg] at a2
    exact absurd (str_ext (y := Str.ofString "") (by rw [a2]; rfl)) (by simpa using h2)
  | some c =>
    rw [hg] at a1
    cases hf : f.cps.toList[i + k]? with
    | none => rw [hf] at a1; simp at a1
    | some d => rw [hf] at a1; simp at a1; exact ⟨d, rfl, by rw [a1]⟩
theorem done_of {f g : Str} {i j k : Nat} (hk : k ≤ lcp (f.cps.toList.drop i) (g.cps.toList.drop j))
    (h1 : ¬ ((Txt.slice f (some ((i : Int) + k)) (some ((i : Int) + k + 1)) == Txt.slice g (some ((j : Int) + k)) (some ((j : Int) + k + 1))) = true ∧
      (Txt.slice g (some ((j : Int) + k)) (some ((j : Int) + k + 1)) != Str.ofString "") = true)) : k = lcp (f.cps.toList.drop i) (g.cps.toList.drop j) := by
  refine Nat.le_antisymm hk (Nat.not_lt.mp fun hlt => h1 ?_)
  obtain ⟨c, e1, e2⟩ := (lcp_at _ _ _ hk).mp hlt
  have a1 := slice_one f (i + k); have a2 := slice_one g (j + k)
  rw [show ((i + k : Nat) : Int) = (i : Int) + k by omega] at a1
  rw [show ((j + k : Nat) : Int) = (j : Int) + k by omega] at a2
  rw [List.getElem?_drop] at e1 e2
  rw [e1] at a1; rw [e2] at a2
  refine ⟨beq_iff_eq.mpr (str_ext (by rw [a1, a2])), ?_⟩
  simp only [bne_iff_ne, ne_eq]
  intro e; rw [e, empty_str] at a2; simp at a2
theorem nmD {led : List (Addr × Obj)} {D : Addr} {P : Prop} (h : ∀ p ∈ led, p.1 < D) (k : ∀ D', D' = D → P) : P := k D rfl
theorem off_cons {own : List (Addr × Obj)} {D : Addr} {adr : List Addr} (h1 : ∀ p ∈ own, p.1 < D) (h2 : OwnOff own adr) : OwnOff own (D :: adr) := by
  intro p hp b hb
  rcases List.mem_cons.mp hb with e | hb
  · rw [e]; exact Nat.ne_of_lt (h1 p hp)
  · exact h2 p hp b hb
theorem off_sub {own : List (Addr × Obj)} {a b : List Addr} (h : OwnOff own a) (hs : ∀ x ∈ b, x ∈ a) : OwnOff own b := fun p hp x hx => h p hp x (hs x hx)

def WDone (h₀ : Heap) (L : Addr) (s : Shared) (Jd : (Str → Option Value) → List (Addr × Obj) → Prop) (s₃ : Shared) : Prop :=
  ∃ h' tk m₂ news₂, s₃ = { s with heap := h', toks := tk } ∧ Fr h₀ L h' m₂ ∧ News h₀ L h' news₂ ∧ Jd m₂ news₂
theorem WDone.intro {h₀ h' : Heap} {L : Addr} {s : Shared} {Jd : (Str → Option Value) → List (Addr × Obj) → Prop} {tk : Nat} {m₂ : Str → Option Value} {news₂ : List (Addr × Obj)}
    (F : Fr h₀ L h' m₂) (N : News h₀ L h' news₂) (hJ : Jd m₂ news₂) : WDone h₀ L s Jd { s with heap := h', toks := tk } := ⟨h', tk, m₂, news₂, rfl, F, N, hJ⟩
section
variable {prog : Program} {w : World} {A : Around} {E : Value → Shared → Prop} {Q : Flow → Shared → Prop} {s : Shared} {env : Env} {h₀ : Heap} {L : Addr}
theorem While_done {test : Expr} {body : List Stmt} {pos : Pos} {m : Str → Option Value} {news : List (Addr × Obj)} (J : Nat → (Str → Option Value) → List (Addr × Obj) → Prop) (Jd : (Str → Option Value) → List (Addr × Obj) → Prop) {n₀ : Nat}
    (F : Fr h₀ L s.heap m) (N : News h₀ L s.heap news) (hJ : J n₀ m news)
    (turn : ∀ n m₁ news₁ h₁ tk₁, Fr h₀ L h₁ m₁ → News h₀ L h₁ news₁ → J n m₁ news₁ →
      wpAny (model prog w) A (isTrue test env (eval test env)) (fun b s₂ =>
        Stop (if b = true then wpAny (model prog w) A (execs body env) (WhileStep h₀ L s J n) E s₂ else WDone h₀ L s Jd s₂)) E { s with heap := h₁, toks := tk₁ })
    (done : ∀ m₁ news₁ h tk, Jd m₁ news₁ → Fr h₀ L h m₁ → News h₀ L h news₁ → Q .next { s with heap := h, toks := tk })
    (hE : PassesOwn (model prog w) A env E := by passes_own) :
    wpAny (model prog w) A (exec (.While test body [] pos) env) Q E s := by
  refine While_inv J F N hJ (fun n m₁ news₁ h₁ tk₁ F₁ N₁ hJ₁ => wpAny_mono (turn n m₁ news₁ h₁ tk₁ F₁ N₁ hJ₁) (fun b s₂ p => ?_) fun _ _ e => e) hE
  cases b with
  | true => simpa using p.h
  | false =>
    have p' : WDone h₀ L s Jd s₂ := by simpa using p.h
    obtain ⟨h', tk, m₂, news₂, rfl, F', N', hd⟩ := p'
    simpa using done m₂ news₂ h' tk hd F' N'
end
theorem fr_step {y k : Str} {a R X : Option Value} (h1 : y = k → a = X) (h2 : ¬ y = k → R = X) : (if y = k then a else R) = X := by
  by_cases h : y = k
  · rw [if_pos h]; exact h1 h
  · rw [if_neg h]; exact h2 h
theorem fr_last {y k : Str} {a R X : Option Value} (h : ¬ y = k) (h1 : X = R) : X = (if y = k then a else R) := by rw [if_neg h, h1]
theorem fr_rstep {y k : Str} {a R X : Option Value} (h1 : y = k → X = a) (h2 : ¬ y = k → X = R) : X = (if y = k then a else R) := by
  by_cases h : y = k
  · rw [if_pos h]; exact h1 h
  · rw [if_neg h]; exact h2 h
end Mine
end
section
open PySem PySem.W PySem.Calls PySem.Spec PyProof PyProof.Rows
set_option Elab.async false
namespace Mine
/-- the names that are left open when the law is called -/
def lsW : List Str := ["_twin_re_1", "_special_chars_map", "b2a_base64", "b64encode", "_tuplegetter", "Match", "SequenceMatcher", "_B64", "_sre"]
/-- all that a call site knows -/
structure Site (w : World) (A : Around) (h₀ : Heap) (L : Addr) (h : Heap) (m : Str → Option Value) : Prop where
  hh : A.handled = none
  fr : Fr h₀ L h m
  at' : ∃ (env : Env) (outer : List Env) (A₀ : Around) (base : Heap) (mean : ExcName → Option Value) (mg mb : Str → Option Value), A.frames = some (env :: outer) ∧ env.frame = some L ∧ env.scope.kind = .function ∧ Below A₀ base outer h₀ ∧ (Kx w.params).In h₀ ∧ Top vw lsW mean mg mb h₀
/-- a def of the text that keeps all that stood: its value, by what it finds (P) and what it leaves (R) -/
def PurK (w : World) (f : Addr) (vs : List Value) (kw : List (Str × Value)) (D U : Nat) (P : Heap → Prop) (R : Heap → Value → Heap → Prop) : Prop :=
  ∀ (A : Around) (h₀ : Heap) (L : Addr) (m : Str → Option Value) (s : Shared) (Q E : Value → Shared → Prop),
    Site w A h₀ L s.heap m → A.depth + D < recursionLimit → A.units + U < cLine → P s.heap →
    (∀ r h' tk', s.heap.StaysIn h' → R s.heap r h' → Q r { s with heap := h', toks := tk' }) →
    wpAny (model pw w) A (call (.ref f) vs kw) Q E s
abbrev Pur (w : World) (f : Addr) (vs : List Value) (D U : Nat) (P : Heap → Prop) (R : Heap → Value → Heap → Prop) : Prop := PurK w f vs [] D U P R
/-- the end of a walk through such a def -/
structure PEnd (R : Heap → Value → Heap → Prop) (s : Shared) (v : Value) (s' : Shared) : Prop where
  h : ∃ h' tk L' m', s' = { s with heap := h', toks := tk } ∧ Fr s.heap L' h' m' ∧ R s.heap v h'
theorem PEnd.intro {R : Heap → Value → Heap → Prop} {s : Shared} {v : Value} {h' : Heap} {tk : Nat} {L' : Addr} {m' : Str → Option Value} (F : Fr s.heap L' h' m') (hr : R s.heap v h') : PEnd R s v { s with heap := h', toks := tk } := ⟨h', tk, L', m', rfl, F, hr⟩
theorem PEnd.leave {h₀ : Heap} {L : Addr} {m : Str → Option Value} {s : Shared} {Rp : Heap → Value → Heap → Prop} {R : Result → Shared → Prop} {v : Value} {s' : Shared}
    (hret : ∀ r h' tk', s.heap.StaysIn h' → Rp s.heap r h' → R (.ok (.ret r)) { s with heap := h', toks := tk' })
    (h : PEnd Rp s v s') : LeaveK h₀ L m s.heap R v s' := by
  obtain ⟨h', tk, L', m', rfl, hF, hr⟩ := h
  exact ⟨L', m', [], hF, News.nil, fun _ _ => hret v h' tk hF.keep hr⟩
section
variable {prog : Program} {w : World} {A₀ A : Around} {E : Value → Shared → Prop} {s : Shared} {base h₀ : Heap} {outer : List Env} {L : Addr} {m : Str → Option Value} {env : Env}
theorem code_pur {K : Frag} {p : Program} {loose : List Str} {mean : ExcName → Option Value} {mg mb : Str → Option Value} {R : Result → Shared → Prop} {Rp : Heap → Value → Heap → Prop} {name qual : Str} {params : Arguments} {body : List Stmt} {scope : Scope} {dV kV doc pm cdv ct oc : Value} {an od : Option Addr} {osl : Array (Option Value)} {f : Addr} {args : Args} {binds : List (Str × Value)}
    (B : Below A₀ base outer h₀) (F : Fr h₀ L s.heap m) (X₀ : K.In h₀) (T : Top p loose mean mg mb h₀) (hA : A.frames = some (env :: outer)) (hf : env.frame = some L) (hke : env.scope.kind = .function)
    (hret : ∀ r h' tk', s.heap.StaysIn h' → Rp s.heap r h' → R (.ok (.ret r)) { s with heap := h', toks := tk' })
    (ho : K.lookup f = some ⟨oc, od, .func (fnOf name qual params body scope dV kV doc pm an cdv ct), osl⟩) (hcd : codeIn K cdv qual = true) (hroom : A.depth < recursionLimit)
    (hbind : BindsTo s (fnOf name qual params body scope dV kV doc pm an cdv ct) args binds) (hloc : ∀ y ∈ binds, scope.names.lookup y.1 = some .local)
    (h : ∀ L' h₁, Fr s.heap L' h₁ (fun y => binds.reverse.lookup y) → News s.heap L' h₁ [] → Below A base (env :: outer) s.heap → K.In s.heap → Top p loose mean mg mb s.heap →
      wpAny (model prog w) (A.deeper (envOf qual scope L' f cdv)) (execs body (envOf qual scope L' f cdv))
        (fun fl s' => PEnd Rp s (match fl with | .ret v => v | _ => .none) s')
        (fun e s' => wpAny (model prog w) (A.deeper (envOf qual scope L' f cdv)) (leaving (envOf qual scope L' f cdv) e) (fun _ s'' => R (.error e) s'') (fun e' s'' => R (.error e') s'') s')
        { s with heap := h₁, toks := s.toks + binds.length })
    (hco : scope.isCoroutine = false) (hgen : scope.isGenerator = false) (hk : scope.kind = .function)
    (hcell : ∀ x ∈ scope.names, x.2 ≠ .cell) : codeAny (model prog w) A (.call (.ref f) args) R s := by
  obtain ⟨FG, BG, st, lv⟩ := groundX (R := R) B F (News.nil (h₀ := h₀) (L := L) (h := s.heap)) hA hf hke
  refine codeAny_call_def (fd := fnX name qual params body scope [] dV kV doc pm an cdv ct) (body := body) (binds := binds) hroom ((X₀.keeps F.keep) _ _ ho) rfl (T.nolimit.keeps F.keep) (codeRec_of (X₀.keeps F.keep) hcd) rfl hbind hcell hloc (fun h₁ hns hk₁ => ?_) hco hgen hk
  exact wpAny_mono (h s.heap.objs.size h₁ ⟨hns, fun b o e => hk₁ b o e, Nat.le_refl _⟩ News.nil BG (X₀.keeps F.keep) (T.keeps F.keep)) (fun fl s' hl => lv _ _ (hl.leave hret)) fun _ _ y => y
theorem code_purC {K : Frag} {p : Program} {loose : List Str} {mean : ExcName → Option Value} {mg mb : Str → Option Value} {R : Result → Shared → Prop} {Rp : Heap → Value → Heap → Prop} {name qual : Str} {params : Arguments} {body : List Stmt} {scope : Scope} {dV kV doc pm cdv ct oc : Value} {an od : Option Addr} {osl : Array (Option Value)} {f : Addr} {args : Args} {binds : List (Str × Value)}
    (B : Below A₀ base outer h₀) (F : Fr h₀ L s.heap m) (X₀ : K.In h₀) (T : Top p loose mean mg mb h₀) (hA : A.frames = some (env :: outer)) (hf : env.frame = some L) (hke : env.scope.kind = .function)
    (hret : ∀ r h' tk', s.heap.StaysIn h' → Rp s.heap r h' → R (.ok (.ret r)) { s with heap := h', toks := tk' })
    (ho : K.lookup f = some ⟨oc, od, .func (fnOf name qual params body scope dV kV doc pm an cdv ct), osl⟩) (hcd : codeIn K cdv qual = true) (hroom : A.depth < recursionLimit)
    (hbind : BindsTo s (fnOf name qual params body scope dV kV doc pm an cdv ct) args binds) (hkind : (binds.all fun y => scope.names.lookup y.1 == some .local || scope.names.lookup y.1 == some .cell) = true)
    (hnd : ((cellsFrom 0 scope.names []).map (·.1)).Nodup)
    (h : ∀ L' h₁ tk cells, Fr s.heap L' h₁ (bindL (envOfC qual scope L' f cdv).kindOf binds fun _ => none) → News s.heap L' h₁ cells →
      CellsAre (bindC (envOfC qual scope L' f cdv).kindOf binds fun _ => none) (cellsFrom (L' + 1) scope.names []) cells → Below A base (env :: outer) s.heap → K.In s.heap → Top p loose mean mg mb s.heap →
      wpAny (model prog w) (A.deeper (envOfC qual scope L' f cdv)) (execs body (envOfC qual scope L' f cdv))
        (fun fl s' => PEnd Rp s (match fl with | .ret v => v | _ => .none) s')
        (fun e s' => wpAny (model prog w) (A.deeper (envOfC qual scope L' f cdv)) (leaving (envOfC qual scope L' f cdv) e) (fun _ s'' => R (.error e) s'') (fun e' s'' => R (.error e') s'') s')
        { s with heap := h₁, toks := tk })
    (hco : scope.isCoroutine = false) (hgen : scope.isGenerator = false) (hk : scope.kind = .function) : codeAny (model prog w) A (.call (.ref f) args) R s := by
  obtain ⟨FG, BG, st, lv⟩ := groundX (R := R) B F (News.nil (h₀ := h₀) (L := L) (h := s.heap)) hA hf hke
  refine codeAny_call_function hroom ((X₀.keeps F.keep) _ _ ho) rfl hco hgen rfl (codeRec_of (X₀.keeps F.keep) hcd) (hbind _ _ _ _ ?_)
  refine wpAny_newFunctionEnv_cells hk (kindsX hkind _) fun env' he s' x => ?_
  subst he
  have hk₁ := x.toInCall.keep
  refine ⟨(T.nolimit.keeps F.keep).keeps hk₁, codeAny_func ?_⟩
  obtain ⟨h₁, tk, rfl, _⟩ := x.done
  obtain ⟨cells, NC, Y⟩ := Cl.news (h₀ := s.heap) (Nat.le_refl _) fun n c hm => ⟨x.cell n c (lookup_of_mem_nodup (cellsFrom_names scope.names 0 (s.heap.objs.size + 1) [] [] rfl ▸ hnd) hm), x.above n c hm⟩
  exact wpAny_mono (h s.heap.objs.size h₁ tk cells ⟨x.toInCall.ns, hk₁, Nat.le_refl _⟩ NC Y BG (X₀.keeps F.keep) (T.keeps F.keep)) (fun fl s' hl => lv _ _ (hl.leave hret)) fun _ _ y => y
end
abbrev topE (dp un : Nat) (gd : Option (List Code)) (env : Env) (outer : List Env) : Around := { handled := none, depth := dp, frames := some (env :: outer), guards := gd, units := un }
section
variable {w : World} {D U : Nat} {P : Heap → Prop} {Rp : Heap → Value → Heap → Prop} {name qual : Str} {params : Arguments} {body : List Stmt} {scope : Scope} {dV kV doc pm cdv ct oc : Value} {an od : Option Addr} {osl : Array (Option Value)} {f : Addr} {vs : List Value} {kw : List (Str × Value)} {binds : List (Str × Value)}
theorem pur_intro (hD : 1 ≤ D)
    (ho : (Kx w.params).lookup f = some ⟨oc, od, .func (fnOf name qual params body scope dV kV doc pm an cdv ct), osl⟩) (hcd : codeIn (Kx w.params) cdv qual = true)
    (hbind : ∀ s : Shared, (Kx w.params).In s.heap → BindsTo s (fnOf name qual params body scope dV kV doc pm an cdv ct) ⟨vs, kw⟩ binds) (hloc : ∀ y ∈ binds, scope.names.lookup y.1 = some .local)
    (h : ∀ (dp un : Nat) (gd : Option (List Code)) (env : Env) (outer : List Env) (base : Heap) (mean : ExcName → Option Value) (mg mb : Str → Option Value) (s : Shared) (E : Value → Shared → Prop) (L' : Addr) (h₁ : Heap) (tk : Nat), dp + D < recursionLimit → un + U < cLine → P s.heap →
      Fr s.heap L' h₁ (fun y => binds.reverse.lookup y) → News s.heap L' h₁ [] → Below (topE dp un gd env outer) base (env :: outer) s.heap → (Kx w.params).In s.heap → Top vw lsW mean mg mb s.heap →
      wpAny (model pw w) ((topE dp un gd env outer).deeper (envOf qual scope L' f cdv)) (execs body (envOf qual scope L' f cdv))
        (fun fl s' => PEnd Rp s (match fl with | .ret v => v | _ => .none) s')
        (fun e s' => wpAny (model pw w) ((topE dp un gd env outer).deeper (envOf qual scope L' f cdv)) (leaving (envOf qual scope L' f cdv) e) (fun _ s'' => E e s'') (fun e' s'' => E e' s'') s')
        { s with heap := h₁, toks := tk })
    (hco : scope.isCoroutine = false) (hgen : scope.isGenerator = false) (hk : scope.kind = .function)
    (hcell : ∀ x ∈ scope.names, x.2 ≠ .cell) : PurK w f vs kw D U P Rp := by
  intro A h₀ L m s Q E S hd hu hP hret
  obtain ⟨hh, F, env, outer, A₀, base, mean, mg, mb, hA, hf', hke, B, X, T⟩ := S
  obtain ⟨hd', dp, fr, gd, un⟩ := A
  dsimp only at hh hA hd hu
  subst hh
  subst hA
  refine wpAny_call (code_pur (R := fun r s' => match r with | .ok (.ret v) => Q v s' | .ok _ => False | .error e => E e s') (Rp := Rp) B F X T rfl hf' hke (fun r h' tk' a b => hret r h' tk' a b) ho hcd (show dp < recursionLimit by omega) (hbind s (X.keeps F.keep)) hloc (fun L' h₁ F' N' B' X' T' => ?_) hco hgen hk hcell)
  exact h dp un gd env outer base mean mg mb s E L' h₁ _ hd hu hP F' N' B' X' T'
theorem pur_introC (hD : 1 ≤ D)
    (ho : (Kx w.params).lookup f = some ⟨oc, od, .func (fnOf name qual params body scope dV kV doc pm an cdv ct), osl⟩) (hcd : codeIn (Kx w.params) cdv qual = true)
    (hbind : ∀ s : Shared, (Kx w.params).In s.heap → BindsTo s (fnOf name qual params body scope dV kV doc pm an cdv ct) ⟨vs, kw⟩ binds) (hkind : (binds.all fun y => scope.names.lookup y.1 == some .local || scope.names.lookup y.1 == some .cell) = true)
    (hnd : ((cellsFrom 0 scope.names []).map (·.1)).Nodup)
    (h : ∀ (dp un : Nat) (gd : Option (List Code)) (env : Env) (outer : List Env) (base : Heap) (mean : ExcName → Option Value) (mg mb : Str → Option Value) (s : Shared) (E : Value → Shared → Prop) (L' : Addr) (h₁ : Heap) (tk : Nat) (cells : List (Addr × Obj)), dp + D < recursionLimit → un + U < cLine → P s.heap →
      Fr s.heap L' h₁ (bindL (envOfC qual scope L' f cdv).kindOf binds fun _ => none) → News s.heap L' h₁ cells → CellsAre (bindC (envOfC qual scope L' f cdv).kindOf binds fun _ => none) (cellsFrom (L' + 1) scope.names []) cells →
      Below (topE dp un gd env outer) base (env :: outer) s.heap → (Kx w.params).In s.heap → Top vw lsW mean mg mb s.heap →
      wpAny (model pw w) ((topE dp un gd env outer).deeper (envOfC qual scope L' f cdv)) (execs body (envOfC qual scope L' f cdv))
        (fun fl s' => PEnd Rp s (match fl with | .ret v => v | _ => .none) s')
        (fun e s' => wpAny (model pw w) ((topE dp un gd env outer).deeper (envOfC qual scope L' f cdv)) (leaving (envOfC qual scope L' f cdv) e) (fun _ s'' => E e s'') (fun e' s'' => E e' s'') s')
        { s with heap := h₁, toks := tk })
    (hco : scope.isCoroutine = false) (hgen : scope.isGenerator = false) (hk : scope.kind = .function) : PurK w f vs kw D U P Rp := by
  intro A h₀ L m s Q E S hd hu hP hret
  obtain ⟨hh, F, env, outer, A₀, base, mean, mg, mb, hA, hf', hke, B, X, T⟩ := S
  obtain ⟨hd', dp, fr, gd, un⟩ := A
  dsimp only at hh hA hd hu
  subst hh
  subst hA
  refine wpAny_call (code_purC (R := fun r s' => match r with | .ok (.ret v) => Q v s' | .ok _ => False | .error e => E e s') (Rp := Rp) B F X T rfl hf' hke (fun r h' tk' a b => hret r h' tk' a b) ho hcd (show dp < recursionLimit by omega) (hbind s (X.keeps F.keep)) hkind hnd (fun L' h₁ tk cells F' N' Y' B' X' T' => ?_) hco hgen hk)
  exact h dp un gd env outer base mean mg mb s E L' h₁ tk cells hd hu hP F' N' Y' B' X' T'
end

theorem pur_use {w : World} {f : Addr} {vs : List Value} {kw : List (Str × Value)} {D U : Nat} {P : Heap → Prop} {R : Heap → Value → Heap → Prop} {A : Around} {h₀ : Heap} {L : Addr} {m : Str → Option Value} {s : Shared} {Q E : Value → Shared → Prop}
    (C : PurK w f vs kw D U P R) (S : Site w A h₀ L s.heap m) (hd : A.depth + D < recursionLimit) (hu : A.units + U < cLine) (hP : P s.heap)
    (hret : ∀ r h' tk', s.heap.StaysIn h' → Fr h₀ L h' m → R s.heap r h' → Q r { s with heap := h', toks := tk' }) :
    wpAny (model pw w) A (call (.ref f) vs kw) Q E s :=
  C A h₀ L m s Q E S hd hu hP fun r h' tk' hs hr => hret r h' tk' hs ⟨S.fr.ns.keeps hs, fun b o e => hs _ _ (S.fr.keep b o e), S.fr.above⟩ hr
theorem news_stay {h₀ h h' : Heap} {L : Addr} {news : List (Addr × Obj)} (N : News h₀ L h news) (hs : h.StaysIn h') : News h₀ L h' news := fun p hp => ⟨hs _ _ (N p hp).1, (N p hp).2⟩
theorem news_add {h₀ h h' : Heap} {L : Addr} {m : Str → Option Value} {news : List (Addr × Obj)} (F : Fr h₀ L h m) (N : News h₀ L h' news) {a : Addr} {o : Obj} (hn : h.get? a = none) (ho : h'.get? a = some o) : News h₀ L h' ((a, o) :: news) := by
  intro p hp
  rcases List.mem_cons.mp hp with rfl | hp
  · refine ⟨ho, fun e => ?_, ?_⟩
    · obtain ⟨oL, _, _, hL, _⟩ := F.ns
      have e' : a = L := e
      rw [e'] at hn; rw [hn] at hL; cases hL
    · cases q : h₀.get? a with
      | none => rfl
      | some o' => rw [F.keep _ _ q] at hn; cases hn
  · exact N p hp
theorem news_off {h₀ h : Heap} {L : Addr} {news : List (Addr × Obj)} (N : News h₀ L h news) {a : Addr} (hn : h.get? a = none) : ∀ p ∈ news, p.1 ≠ a := fun p hp e => by
  have := (N p hp).1; rw [e, hn] at this; cases this
/-- objects that a call has made -/
def NewIn (h h' : Heap) (led : List (Addr × Obj)) : Prop := ∀ p ∈ led, h.get? p.1 = none ∧ h'.get? p.1 = some p.2
theorem news_adds {h₀ h h' : Heap} {L : Addr} {m : Str → Option Value} {news led : List (Addr × Obj)} (F : Fr h₀ L h m) (N : News h₀ L h news) (hs : h.StaysIn h') (hn : NewIn h h' led) : News h₀ L h' (led ++ news) := by
  intro p hp
  rcases List.mem_append.mp hp with hp | hp
  · exact news_add F (News.nil (L := L)) (hn p hp).1 (hn p hp).2 p (.head _)
  · exact news_stay N hs p hp
theorem newIn_of {h₀ h' : Heap} {L : Addr} {news : List (Addr × Obj)} (N : News h₀ L h' news) {led : List (Addr × Obj)} (hs : ∀ p ∈ led, p ∈ news) : NewIn h₀ h' led := fun p hp => ⟨(N p (hs p hp)).2.2, (N p (hs p hp)).1⟩
theorem news_sub {h₀ h' : Heap} {L : Addr} {news led : List (Addr × Obj)} (N : News h₀ L h' news) (hs : ∀ p ∈ led, p ∈ news) : News h₀ L h' led := fun p hp => N p (hs p hp)
theorem allLt_ne : ∀ {d c : Nat} {l : List (Addr × Obj)}, AllLt d l → d ≤ c → ∀ p ∈ l, p.1 ≠ c
  | d, c, [], _, _ => fun _ h => nomatch h
  | d, c, (a, o) :: l, h, hc => by
    intro p hp
    rcases List.mem_cons.mp hp with e | hp
    · rw [e]; exact Nat.ne_of_lt (Nat.lt_of_lt_of_le h.1 hc)
    · exact allLt_ne h.2 hc p hp
/-- a mark: walk on where a line of ours would stop -/
inductive Go : Prop
  | mk
end Mine
end
section
open PySem PySem.W PySem.Calls PySem.Spec PyProof.Rows
set_option Elab.async false
namespace Mine
set_option linter.unusedVariables false
local macro_rules | `(tactic| walk_at "pyIter ref") => `(tactic| (refine stop_of ?_))
local macro_rules | `(tactic| walk_at "call ref") => `(tactic| (refine stop_of ?_))
local macro_rules | `(tactic| k_steps) => `(tactic| repeat' (first | (k_unfold; (try dsimp only)) | walk1 | (dsimp only; walk1) | (leave1; (try dsimp only)) | fail "no step"))
local macro_rules | `(tactic| walk_at "exec While Compare cons nil") => `(tactic| ((fail_if_success (rename Go => hgo)); refine stop_of ?_))
set_option hygiene false in
local macro_rules | `(tactic| walk_at "FRAME") => `(tactic| (intro y; (try dsimp only); (repeat (refine fr_step (fun hy => (by first | exact absurd hy (by assumption) | (subst hy; first | rfl | kernel_rfl))) fun hy => ?_)); (repeat (first | refine fr_last (by assumption) ?_ | refine fr_rstep (fun hy => (by subst hy; first | rfl | kernel_rfl)) fun hy => ?_)); (try rfl)))
set_option hygiene false in
local macro_rules | `(tactic| walk_at "PUR") => `(tactic| (k_dflt (refine' pur_intro (by omega) ?k6 ?k7 ?k9 ?kB ?_ ?c2 ?c3 ?c4 ?c5; (case k6 => k_is); (case k7 => k_is); (case k9 => (intro _ Xb; first | exact BindsTo.of_eq rfl | exact binds_K (by k_in) rfl (by k_is) rfl rfl rfl)); (case c5 => decide); (case kB => exact locs rfl); (case c2 => exact rfl); (case c3 => exact rfl); (case c4 => exact rfl)); k_whole; intro dp un gd env outer base mean mg mb s E L' h₁ tk hd hu hP F1 N2 B X T; (try dsimp only); (try k_fold)))
set_option hygiene false in
local macro_rules | `(tactic| walk_at "ROOM") => `(tactic| (first | omega | (simp only [Around.deeper, topE]; omega)))
set_option hygiene false in
local macro_rules | `(tactic| walk_at "SITE") => `(tactic| (refine ⟨rfl, by assumption, _, _, _, _, _, _, _, rfl, rfl, rfl, B, X, T⟩))
local macro_rules | `(tactic| walk_at "binaryOp Add ref ref") => `(tactic| (refine stop_of ?_))
set_option hygiene false in
local macro_rules | `(tactic| walk_at "SUB") => `(tactic| (intro p hp; (try simp only [List.mem_cons, List.mem_append, List.not_mem_nil, or_false, false_or] at hp ⊢); (repeat' (refine Or.elim hp (fun hp => ?_) fun hp => ?_)); (all_goals (simp only [hp, true_or, or_true]))))
local macro_rules | `(tactic| walk_at "binaryOp Add str str") => `(tactic| ((refine PyProof.Rows.add_str (hsz := ?hsz) ?_); (case hsz => (first | (simp only [Str.length_append, sizeLine_eq]; omega) | size_fits)); intro _ _))
local macro_rules | `(tactic| k_all) => `(tactic| (refine allLt_ne (by assumption) ?_; omega))
local macro_rules | `(tactic| k_all) => `(tactic| with_reducible assumption)
set_option hygiene false in
local macro_rules | `(tactic| walk_at "PURC") => `(tactic| (k_dflt (refine' pur_introC (by omega) ?k6 ?k7 ?k9 ?kB ?kD ?_ ?c2 ?c3 ?c4; (case k6 => k_is); (case k7 => k_is); (case k9 => (intro _ Xb; first | exact BindsTo.of_eq rfl | exact binds_K (by k_in) rfl (by k_is) rfl rfl rfl)); (case kB => exact rfl); (case kD => decide +kernel); (case c2 => exact rfl); (case c3 => exact rfl); (case c4 => exact rfl)); k_whole; intro dp un gd env outer base mean mg mb s E L' h₁ tk cells hd hu hP F1 N2 Y2 B X T; k_cells Y2; (try simp only [List.cons_append, List.nil_append] at N2); (try dsimp only); (try k_fold)))
local macro_rules | `(tactic| walk_at "compareOp Is str ref") => `(tactic| (refine wpAny_is_other (by rfl) (by intro x; cases x) ?_))
local macro_rules | `(tactic| walk_at "exec For Name Name cons nil") => `(tactic| (refine stop_of ?_))
set_option hygiene false in
local macro_rules | `(tactic| walk_at "OWN") => `(tactic| (k_dflt (refine' own_intro (by omega) ?k6 ?k7 ?k9 ?kB ?_ ?c2 ?c3 ?c4 ?c5; (case k6 => k_is); (case k7 => k_is); (case k9 => (intro _ Xb; first | exact BindsTo.of_eq rfl | exact binds_K (by k_in) rfl (by k_is) rfl rfl rfl)); (case c5 => decide); (case kB => exact locs rfl); (case c2 => exact rfl); (case c3 => exact rfl); (case c4 => exact rfl)); k_whole; intro dp un gd env outer base mean mg mb s E L' h₁ tk hd hu hP F1 N2 B X T; (try dsimp only); (try k_fold)))
set_option hygiene false in
local macro_rules | `(tactic| walk_at "CLS") => `(tactic| (k_dflt (refine' cls_intro (by omega) ?kh ?ki ?kj ?km ?k6 ?k7 ?k9 ?kB ?_ ?c2 ?c3 ?c4 ?c5; (case km => walk_at "MONO"); (case kh => k_is); (case ki => k_is); (case kj => k_is); (case k6 => k_is); (case k7 => k_is); (case k9 => (intro _ _ Xb; first | exact BindsTo.of_eq rfl | exact binds_K (by k_in) rfl (by k_is) rfl rfl rfl)); (case c5 => decide); (case kB => (intro _; exact locs rfl)); (case c2 => exact rfl); (case c3 => exact rfl); (case c4 => exact rfl)); k_whole; intro dp un gd env outer base mean mg mb s E L' h₁ tk xI dI hd hu lI F1 N2 B X T; (try dsimp only); (try k_fold)))
set_option hygiene false in
local macro_rules | `(tactic| walk_at "ENTER") => `(tactic| (refine' code_def ?k1 ?k2 ?k3 ?k4 ?k5 ?kA ?kF ?kK ?k6 ?k7 ?k8 ?k9 ?kB ?_ ?c2 ?c3 ?c4 ?c5; (case kA => exact rfl); (case kF => exact rfl); (case kK => exact rfl); (case k1 => k_asm); (case k2 => k_asm); (case k3 => k_asm); (case k4 => k_asm); (case k5 => k_asm); (case k6 => k_is); (case k7 => k_is); (case k8 => (simp only [depth_under_make, depth_under_kw, depth_in1, depth_deeper, depth_caller, topE]; omega)); (case k9 => first | exact BindsTo.of_eq rfl | exact binds_K (by k_in) rfl (by k_is) rfl rfl rfl | fail "k_enter: no rule for these arguments"); (case c5 => decide); (case kB => exact locs rfl); (case c2 => exact rfl); (case c3 => exact rfl); (case c4 => exact rfl); k_whole; intro g' L2' h' FG' F' N' B' X' T'; (try dsimp only); (try k_lift B'); (try k_fold)))
set_option maxRecDepth 100000 in
set_option maxHeartbeats 800000 in
theorem t_longest (w : World) (f g : Str) (t1 t2 : Tok) : PySem.Challenge.rw_ik0097_01 = PySem.Challenge.rw_ik0097_01 → Kx = Kx → f.length ≤ 8 → g.length ≤ 8 →
    Pur w 336 [.str f t1, .str g t2] 3 30 (fun _ => True) (fun h v h' => ∃ r x y z, v = .ref r ∧ h.get? r = none ∧ h'.get? r = some (tup3 (longest f.cps.toList g.cps.toList) x y z)) := by
  k_fill
  intro _ _ hf hg
  walk_at "PUR"
  (rename Fr _ _ _ _ => F1)
  have F2 := fr_as F1 (m' := fun y => List.lookup y [("second", .str g t2), ("first", .str f t1)]) (by intro y; kernel_rfl)
  clear F1
  simp only [lk_cons, lk_nil] at F2
  (rename News _ _ _ _ => N2)
  obtain ⟨news, hnews⟩ : ∃ news : List (Addr × Obj), news = [] := ⟨_, rfl⟩
  rw [← hnews] at N2
  k_steps
  (rename IsRange _ _ _ _ _ _ _ _ => hr)
  (rename Fr _ _ _ _ => F3)
  (rename News _ _ _ _ => N3)
  refine Stop.mk ?_
  refine iter_rangeG (fun i m' nw => ∃ (aT : Addr) (x y z : Tok) (ui uj us : Option Value), m' = (fun (v : Str) => if v = "size" then us else if v = "j" then uj else if v = "i" then ui else if v = "best" then some (.ref aT) else if v = "second" then some (.str g t2) else if v = "first" then some (.str f t1) else none) ∧ nw = (aT, tup3 (rows f.cps.toList g.cps.toList i) x y z) :: news) (by rfl) hr (small_one (by omega) (by omega) (by omega) (by omega)) (rangeSize_nat _ _) F3 N3 ?hj ?turn ?done
  case hj => exact ⟨_, _, _, _, none, none, none, funext (by walk_at "FRAME"), rfl⟩
  case done =>
    rintro m2 nw2 h2 tk2 ⟨aT2, x2, y2, z2, ui2, uj2, us2, rfl, rfl⟩ F6 N6
    have hlen : (((f.length : Nat) : Int) - 0).toNat = f.cps.toList.length := by simp [Str.length]
    rw [hlen] at N6
    dsimp only
    k_steps
    (rename News _ _ _ _ => N9)
    (rename Fr _ _ _ _ => F9)
    exact PEnd.intro F9 ⟨_, _, _, _, rfl, (N9 _ (.head _)).2.2, (N9 _ (.head _)).1⟩
  case turn =>
    clear F3 N3 hr
    intro i ti m1 nw1 h1 tk1 own1 hi hoff1 hJ1 F4 N4
    obtain ⟨aT, x1, y1, z1, ui, uj, us, rfl, rfl⟩ := hJ1
    k_steps
    (rename IsRange _ _ _ _ _ _ _ _ => hr)
    (rename Fr _ _ _ _ => F5)
    (rename News _ _ _ _ => N5)
    refine Stop.mk ?_
    refine iter_rangeG (fun j m' nw => ∃ (aT : Addr) (x y z : Tok) (uj us : Option Value), m' = (fun (v : Str) => if v = "size" then us else if v = "j" then uj else if v = "i" then some (.int (0 + (i : Int)) ti) else if v = "best" then some (.ref aT) else if v = "second" then some (.str g t2) else if v = "first" then some (.str f t1) else none) ∧ nw = (aT, tup3 (row f.cps.toList g.cps.toList i j (rows f.cps.toList g.cps.toList i)) x y z) :: (news ++ own1) ∧ OwnOff own1 (aT :: news.map (·.1))) (by rfl) hr (small_one (by omega) (by omega) (by omega) (by omega)) (rangeSize_nat _ _) F5 N5 ?hj2 ?turn2 ?done2
    case hj2 => exact ⟨aT, x1, y1, z1, uj, us, funext (by walk_at "FRAME"), rfl, fun p hp b hb => hoff1 p hp b hb⟩
    case turn2 =>
      (try clear F5); (try clear N5); (try clear hr); (try clear F4); (try clear N4)
      intro j tj m2 nw2 h2 tk2 own2 hj hoff2 hJ2 F6 N6
      obtain ⟨aT2, x2, y2, z2, uj2, us2, rfl, rfl, hoff3⟩ := hJ2
      k_steps
      (rename Fr _ _ _ _ => F7)
      (rename News _ _ _ _ => N7)
      refine Stop.mk ?_
      have F7' := fr_as F7 (m' := (fun (v : Str) => if v = "size" then some (.int ((0 : Nat) : Int) _) else if v = "j" then some (.int (0 + (j : Int)) tj) else if v = "i" then some (.int (0 + (i : Int)) ti) else if v = "best" then some (.ref aT2) else if v = "second" then some (.str g t2) else if v = "first" then some (.str f t1) else none)) (by walk_at "FRAME")
      refine While_done (n₀ := lcp (f.cps.toList.drop i) (g.cps.toList.drop j)) (fun n m' nw => ∃ (k : Nat) (tz : Tok), m' = (fun (v : Str) => if v = "size" then some (.int (k : Int) tz) else if v = "j" then some (.int (0 + (j : Int)) tj) else if v = "i" then some (.int (0 + (i : Int)) ti) else if v = "best" then some (.ref aT2) else if v = "second" then some (.str g t2) else if v = "first" then some (.str f t1) else none) ∧ nw = (aT2, tup3 (row f.cps.toList g.cps.toList i j (rows f.cps.toList g.cps.toList i)) x2 y2 z2) :: (news ++ own1) ++ own2 ∧ k + n = lcp (f.cps.toList.drop i) (g.cps.toList.drop j)) (fun m' nw => ∃ (k : Nat) (tz : Tok), m' = (fun (v : Str) => if v = "size" then some (.int (k : Int) tz) else if v = "j" then some (.int (0 + (j : Int)) tj) else if v = "i" then some (.int (0 + (i : Int)) ti) else if v = "best" then some (.ref aT2) else if v = "second" then some (.str g t2) else if v = "first" then some (.str f t1) else none) ∧ nw = (aT2, tup3 (row f.cps.toList g.cps.toList i j (rows f.cps.toList g.cps.toList i)) x2 y2 z2) :: (news ++ own1) ++ own2 ∧ k = lcp (f.cps.toList.drop i) (g.cps.toList.drop j)) F7' N7 ?hj3 ?turn3 ?done3
      case hj3 => exact ⟨0, _, rfl, rfl, by omega⟩
      case turn3 =>
        (try clear F7'); (try clear F7); (try clear N7)
        intro n m3 nw3 h3 tk3 F8 N8 hJ3
        obtain ⟨k, tz, rfl, rfl, hk⟩ := hJ3
        k_steps
        · dsimp only
          refine stop_if (fun hc => ?_) fun hc => ?_
          · refine stop_wp ?_
            k_steps
            dsimp only
            (rename (Txt.slice _ _ _ == Txt.slice _ _ _) = true => hcmp)
            have hlt := more_of (f := f) (g := g) (i := i) (j := j) (k := k) (by omega) (by simpa only [Int.zero_add] using hcmp) (by simpa only [Int.zero_add] using hc)
            (rename Fr _ _ _ _ => F9)
            have F10 := fr_sh F9
            rw [show ((k : Int) + 1) = ((k + 1 : Nat) : Int) by omega] at F10
            exact Stop.mk (WhileStep.intro F10 ‹News _ _ _ _› (n' := n - 1) (by omega) ⟨k + 1, _, rfl, rfl, by omega⟩)
          · have hkk := done_of (f := f) (g := g) (i := i) (j := j) (k := k) (by omega) (fun hh => hc (by simpa only [Int.zero_add] using hh.2))
            exact Stop.mk (WDone.intro ‹Fr _ _ _ _› ‹News _ _ _ _› ⟨k, tz, rfl, rfl, hkk⟩)
        · dsimp only
          refine stop_if (fun hc => absurd hc Bool.false_ne_true) fun hc => ?_
          (rename (Txt.slice _ _ _ == Txt.slice _ _ _) = false => hcmp)
          have hkk := done_of (f := f) (g := g) (i := i) (j := j) (k := k) (by omega) (fun hh => by
            have := hh.1
            have e : (Txt.slice f (some ((i : Int) + k)) (some ((i : Int) + k + 1)) == Txt.slice g (some ((j : Int) + k)) (some ((j : Int) + k + 1))) = false := by simpa only [Int.zero_add] using hcmp
            rw [e] at this; exact absurd this Bool.false_ne_true)
          exact Stop.mk (WDone.intro ‹Fr _ _ _ _› ‹News _ _ _ _› ⟨k, tz, rfl, rfl, hkk⟩)
      case done3 =>
        (try clear F7'); (try clear F7); (try clear N7)
        rintro m3 nw3 h3 tk3 ⟨k, tz, rfl, rfl, hkk⟩ F8 N8
        dsimp only
        refine wpAny_stop ?_
        k_steps
        · dsimp only
          (rename ∀ p : Addr × Obj, p ∈ _ → p.1 < _ => hbel)
          (rename (_ : Int) < (_ : Int) => hgt)
          (rename News _ _ _ _ => N9)
          (rename Fr _ _ _ _ => F9)
          refine nmD hbel fun D eD => ?_
          subst eD
          have hrow : row f.cps.toList g.cps.toList i (j + 1) (rows f.cps.toList g.cps.toList i) = (i, j, k) := by
            rw [row_succ]; unfold better; rw [if_pos (by rw [← hkk]; omega), ← hkk]
          have F10 := fr_as F9 (m' := fun (v : Str) => if v = "size" then some (.int (k : Int) tz) else if v = "j" then some (.int (0 + (j : Int)) tj) else if v = "i" then some (.int (0 + (i : Int)) ti) else if v = "best" then some (.ref D) else if v = "second" then some (.str g t2) else if v = "first" then some (.str f t1) else none) (by walk_at "FRAME")
          rw [Int.zero_add, Int.zero_add] at N9
          refine Stop.mk ?_
          dsimp only [InvPostG]
          refine InvEndG.intro F10 N9 (nx := (D, tup3 (row f.cps.toList g.cps.toList i (j + 1) (rows f.cps.toList g.cps.toList i)) ti tj tz) :: (news ++ own1)) ⟨D, _, _, _, _, _, rfl, rfl, off_cons (fun p hp => hbel p ?_) (off_sub hoff3 fun x hx => List.mem_cons_of_mem _ hx)⟩ (off_cons (fun p hp => hbel p ?_) (off_sub hoff2 fun x hx => List.mem_cons_of_mem _ hx)) (fun p hp => ?_) (fun p hp => ?_)
          · simp [hp]
          · simp [hp]
          · rw [hrow] at hp
            simp only [tup3, List.mem_cons, List.mem_append] at hp ⊢
            rcases hp with h | h | h
            · exact .inl h
            · exact .inr (.inl (.inr (.inl h)))
            · exact .inr (.inl (.inr (.inr h)))
          · simp [hp]
        · dsimp only
          (rename ¬ (_ : Int) < (_ : Int) => hle)
          (rename News _ _ _ _ => N9)
          (rename Fr _ _ _ _ => F9)
          have hrow : row f.cps.toList g.cps.toList i (j + 1) (rows f.cps.toList g.cps.toList i) = row f.cps.toList g.cps.toList i j (rows f.cps.toList g.cps.toList i) := by
            rw [row_succ]; unfold better; rw [if_neg (by rw [← hkk]; omega)]
          refine Stop.mk ?_
          dsimp only [InvPostG]
          refine InvEndG.intro F9 N9 (nx := (aT2, tup3 (row f.cps.toList g.cps.toList i (j + 1) (rows f.cps.toList g.cps.toList i)) x2 y2 z2) :: (news ++ own1)) ⟨aT2, _, _, _, _, _, rfl, rfl, hoff3⟩ hoff2 (fun p hp => ?_) (fun p hp => ?_)
          · rw [hrow] at hp; exact List.mem_append.mpr (.inl hp)
          · exact List.mem_append.mpr (.inr hp)
    case done2 =>
      (try clear F5); (try clear N5); (try clear hr); (try clear F4); (try clear N4)
      rintro m2 nw2 h2 tk2 ⟨aT2, x2, y2, z2, uj2, us2, rfl, rfl, hoff3⟩ F6 N6
      have hlen : (((g.length : Nat) : Int) - 0).toNat = g.cps.toList.length := by simp [Str.length]
      rw [hlen, ← rows_succ] at N6
      dsimp only
      refine wpAny_stop ?_
      k_steps
      (try dsimp only)
      refine Stop.mk ?_
      dsimp only [InvPostG]
      (rename News _ _ _ _ => N9)
      (rename Fr _ _ _ _ => F9)
      refine InvEndG.intro F9 N9 (nx := (aT2, tup3 (rows f.cps.toList g.cps.toList (i + 1)) x2 y2 z2) :: news) ⟨aT2, x2, y2, z2, some (.int (0 + (i : Int)) ti), uj2, us2, funext (by walk_at "FRAME"), rfl⟩ hoff3 (fun p hp => ?_) (fun p hp => ?_)
      · simp only [List.mem_cons, List.mem_append] at hp ⊢
        rcases hp with h | h
        · exact .inl h
        · exact .inr (.inl h)
      · simp [hp]
end Mine
end
section
open PySem PySem.W PySem.Calls PySem.Spec PyProof PyProof.Rows PySem.Builtin PySem.Builtin.Str
set_option Elab.async false
namespace Mine
theorem slice_from (x : Str) (i : Nat) : Txt.slice x (some (i : Int)) none = ⟨(x.cps.toList.drop i).toArray⟩ := by
  have e : Txt.slice x (some (i : Int)) none = Txt.slice x (some (i : Int)) (some ((x.length + i : Nat) : Int)) := by
    unfold Txt.slice
    have : strSliceIndices (some (i : Int)) none 1 x.length = strSliceIndices (some (i : Int)) (some ((x.length + i : Nat) : Int)) 1 x.length := by
      have h0 : ¬ (i : Int) < 0 := by omega
      have h1 : ¬ ((x.length + i : Nat) : Int) < 0 := by omega
      have h2 : (1 : Int) > 0 := by decide
      have h3 : min ((x.length + i : Nat) : Int) (x.length : Int) = x.length := by omega
      have h4 : max (0 : Int) (x.length : Int) = x.length := by omega
      simp only [strSliceIndices, h0, h1, h2, if_false, if_true, h3, h4]
    rw [this]
  rw [e, slice_ij x i (x.length + i) (by omega)]
  congr 2
  rw [List.take_of_length_le]
  rw [List.length_drop]
  have : x.length = x.cps.toList.length := by simp [Str.length]
  omega
theorem slice_to (x : Str) (j : Nat) : Txt.slice x none (some (j : Int)) = ⟨(x.cps.toList.take j).toArray⟩ := by
  have e : Txt.slice x none (some (j : Int)) = Txt.slice x (some ((0 : Nat) : Int)) (some (j : Int)) := by
    unfold Txt.slice
    have : strSliceIndices none (some (j : Int)) 1 x.length = strSliceIndices (some ((0 : Nat) : Int)) (some (j : Int)) 1 x.length := by
      have h0 : ¬ ((0 : Nat) : Int) < 0 := by omega
      have h2 : (1 : Int) > 0 := by decide
      have h3 : min ((0 : Nat) : Int) (x.length : Int) = 0 := by omega
      have h4 : max (0 : Int) 0 = 0 := by omega
      simp only [strSliceIndices, h0, h2, if_false, if_true, h3, h4]
    rw [this]
  rw [e, slice_ij x 0 j (by omega)]
  simp
def fits (f g : List Nat) (b : Nat × Nat × Nat) : Prop := b.1 + b.2.2 ≤ f.length ∧ b.2.1 + b.2.2 ≤ g.length
theorem better_fits {f g : List Nat} {i j : Nat} {b : Nat × Nat × Nat} (hi : i ≤ f.length) (hj : j ≤ g.length) (h : fits f g b) : fits f g (better f g i j b) := by
  unfold better
  split
  · have := lcp_le (f.drop i) (g.drop j)
    simp only [List.length_drop] at this
    exact ⟨by show i + lcp _ _ ≤ _; omega, by show j + lcp _ _ ≤ _; omega⟩
  · exact h
theorem row_fits {f g : List Nat} {i : Nat} (hi : i ≤ f.length) : ∀ n b, n ≤ g.length → fits f g b → fits f g (row f g i n b)
  | 0, b, _, h => h
  | n + 1, b, hn, h => by
    rw [row_succ]
    exact better_fits hi (by omega) (row_fits hi n b (by omega) h)
theorem rows_fits {f g : List Nat} : ∀ n, n ≤ f.length → fits f g (rows f g n)
  | 0, _ => ⟨Nat.zero_le _, Nat.zero_le _⟩
  | n + 1, hn => by
    rw [rows_succ]
    exact row_fits (by omega) _ _ (Nat.le_refl _) (rows_fits n (by omega))
theorem longest_fits (f g : List Nat) : fits f g (longest f g) := rows_fits _ (Nat.le_refl _)
def blocksM : Nat → List Nat → List Nat → Nat → Nat → List (Nat × Nat × Nat)
  | 0, _, _, _, _ => []
  | n + 1, f, g, i, j => if (longest f g).2.2 = 0 then [] else
    blocksM n (f.take (longest f g).1) (g.take (longest f g).2.1) i j ++ [(i + (longest f g).1, j + (longest f g).2.1, (longest f g).2.2)] ++
      blocksM n (f.drop ((longest f g).1 + (longest f g).2.2)) (g.drop ((longest f g).2.1 + (longest f g).2.2)) (i + (longest f g).1 + (longest f g).2.2) (j + (longest f g).2.1 + (longest f g).2.2)
/-- the values at hand are references to tuples of three ints, written in the ledger -/
def TupsIn (led : List (Addr × Obj)) : List Value → List (Nat × Nat × Nat) → Prop
  | [], [] => True
  | v :: vs, b :: bl => (∃ a x y z, v = .ref a ∧ (a, tup3 b x y z) ∈ led) ∧ TupsIn led vs bl
  | _, _ => False
theorem TupsIn.more {led led' : List (Addr × Obj)} (hs : ∀ p ∈ led, p ∈ led') : ∀ {vs : List Value} {bl : List (Nat × Nat × Nat)}, TupsIn led vs bl → TupsIn led' vs bl
  | [], [], _ => trivial
  | _ :: _, _ :: _, ⟨⟨a, x, y, z, e, e'⟩, T⟩ => ⟨⟨a, x, y, z, e, hs _ e'⟩, TupsIn.more hs T⟩
  | [], _ :: _, T => T.elim
  | _ :: _, [], T => T.elim
theorem TupsIn.append {led : List (Addr × Obj)} : ∀ {vs : List Value} {bl : List (Nat × Nat × Nat)} {vs' : List Value} {bl' : List (Nat × Nat × Nat)}, TupsIn led vs bl → TupsIn led vs' bl' → TupsIn led (vs ++ vs') (bl ++ bl')
  | [], [], _, _, _, T' => T'
  | _ :: _, _ :: _, _, _, ⟨a, T⟩, T' => ⟨a, TupsIn.append T T'⟩
  | [], _ :: _, _, _, T, _ => T.elim
  | _ :: _, [], _, _, T, _ => T.elim
theorem TupsIn.length {led : List (Addr × Obj)} : ∀ {vs : List Value} {bl : List (Nat × Nat × Nat)}, TupsIn led vs bl → vs.length = bl.length
  | [], [], _ => rfl
  | _ :: _, _ :: _, ⟨_, T⟩ => congrArg (· + 1) (TupsIn.length T)
  | [], _ :: _, T => T.elim
  | _ :: _, [], T => T.elim
theorem blocksM_length : ∀ (n : Nat) (f g : List Nat) (i j : Nat), (blocksM n f g i j).length ≤ f.length
  | 0, _, _, _, _ => Nat.zero_le _
  | n + 1, f, g, i, j => by
    unfold blocksM
    have hf := longest_fits f g
    unfold fits at hf
    split
    · exact Nat.zero_le _
    · have h1 := blocksM_length n (f.take (longest f g).1) (g.take (longest f g).2.1) i j
      have h2 := blocksM_length n (f.drop ((longest f g).1 + (longest f g).2.2)) (g.drop ((longest f g).2.1 + (longest f g).2.2)) (i + (longest f g).1 + (longest f g).2.2) (j + (longest f g).2.1 + (longest f g).2.2)
      simp only [List.length_append, List.length_cons, List.length_nil, List.length_take, List.length_drop] at *
      omega
section
variable {prog : Program} {w : World} {A : Around} {E : Value → Shared → Prop} {s : Shared} {h₀ : Heap} {L D : Addr} {m : Str → Option Value} {news news' : List (Addr × Obj)} {n : Nat}
theorem seqIndex_last (qs : List Value) (x : Value) : seqIndex? (-1) (qs ++ [x]).length = some qs.length := by
  rw [PySem.seqIndex_neg (by decide) (by simp; omega)]
  simp
  omega
theorem setL_last (v x : Value) : ∀ qs : List Value, ki_setL (qs ++ [x]) qs.length v = some (qs ++ [v])
  | [] => rfl
  | q :: qs => by simp [ki_setL, setL_last v x qs]
theorem setLast {qs : List Value} {x v : Value} {t : Tok} {Q : Unit → Shared → Prop} (F : Fr h₀ L s.heap m) (N : News h₀ L s.heap news) (U : Upd D (listOf (qs ++ [x]).toArray n) (listOf (qs ++ [v]).toArray n) news news')
    (h : ∀ h', Fr h₀ L h' m → News h₀ L h' news' → Q () { s with heap := h' }) : wpAny (model prog w) A (setItem (.ref D) (.int (-1) t) v) Q E s :=
  ki_setNeg F N (by decide) (by decide) (j := qs.length) (q := qs ++ [v]) (by rw [List.size_toArray]; exact seqIndex_last qs x) (by simpa using setL_last v x qs) U h
theorem getLast {value slice : PySem.Expr} {qs : List Value} {x : Value} {t : Tok} {Q : Value → Shared → Prop} (N : News h₀ L s.heap news) (hm : (D, listOf (qs ++ [x]).toArray n) ∈ news) (h : Q x s)
    (hs : subscripted slice false (.ref D) (.int (-1) t) = operate [.ref D, .int (-1) t] (getItem (.ref D) (.int (-1) t)) := by with_unfolding_all rfl) :
    wpAny (model prog w) A (subscriptTail value slice (.ref D) (.int (-1) t)) Q E s :=
  kde_neg (vs := qs ++ [x]) ⟨_, N.get hm, rfl, _, rfl⟩ (by decide) (by decide) (seqIndex_last qs x) (by simp) h hs
end
theorem str_app (a b : List Nat) : (⟨a.toArray⟩ : Str) ++ ⟨b.toArray⟩ = ⟨(a ++ b).toArray⟩ := str_ext (by simp [Str.cps_append])
theorem slice_add (x : Str) (i z : Nat) : Txt.slice x (some (i : Int)) (some ((i : Int) + (z : Int))) = ⟨((x.cps.toList.drop i).take z).toArray⟩ := by
  rw [show ((i : Int) + (z : Int)) = ((i + z : Nat) : Int) by omega, slice_ij x i (i + z) (by omega)]
  simp
end Mine
end
section
open PySem PySem.W PySem.Calls PySem.Spec PyProof.Rows PyProof.V
set_option Elab.async false
set_option maxRecDepth 100000
namespace Mine
section
variable {prog : Program} {w : World} {A : Around} {E : Value → Shared → Prop} {s : Shared} {env : Env} {h₀ : Heap} {x : Str} {body : List Stmt} {Q : Flow → Shared → Prop}
theorem stepU_of {I : Addr} {L : Addr} {wr : List Addr} {own : List (Addr × Obj)} {J : (Str → Option Value) → List (Addr × Obj) → Prop} {s₁ s₂ : Shared} (hw : ∀ b ∈ wr, b ∈ own.map (·.1)) (p : InvEndG h₀ L J own s₁ s₂) : LoopStepU h₀ L wr own J s₁ .next s₂ := by
  obtain ⟨h', tk, m', news', nx, e, F', N', hn, ho, ha, hm⟩ := p
  refine ⟨rfl, h', tk, m', nx, e, F', fun p hp => N' p ((List.mem_append.mp hp).elim (ho p) (hn p)), fun p hp hq => ?_, hm⟩
  obtain ⟨q, hq', e'⟩ := List.mem_map.mp (hw _ hq)
  exact ha q hq' p.1 (List.mem_map.mpr ⟨p, hp, rfl⟩) e'
theorem loopV_core {I : Addr} {fp wr : List Addr} {n : Nat} {P : Nat → Value → Prop} {St : Nat → Heap → Prop} {m₀ : Str → Option Value} {news : List (Addr × Obj)} (J : Nat → (Str → Option Value) → List (Addr × Obj) → Prop)
    (W : Walks prog w A I fp wr n P St) (hLf : env.locals ∉ fp) (hwr : ∀ b ∈ wr, h₀.get? b = none) (hfw : ∀ b ∈ fp, h₀.get? b = none → b ∈ wr) (hlive : ∀ i h b, St i h → b ∈ wr → ∃ o, h.get? b = some o)
    (hnw : ∀ p ∈ news, p.1 ∉ wr) (hst : St 0 s.heap) (F : Fr h₀ env.locals s.heap m₀) (N : News h₀ env.locals s.heap news) (hj : J 0 m₀ news)
    (turn : ∀ i v m₁ news₁ h tk own, i < n → P i v → OwnOff own (news₁.map (·.1)) → J i m₁ news₁ → Fr h₀ env.locals h (fun y => if y = x then some v else m₁ y) → News h₀ env.locals h (news₁ ++ own) →
      wpAny (model prog w) A (execs body env) (InvPostG h₀ env.locals (J (i + 1)) own { s with heap := h, toks := tk } Q) E { s with heap := h, toks := tk })
    (done : ∀ m₁ news₁ h tk, J n m₁ news₁ → Fr h₀ env.locals h m₁ → News h₀ env.locals h news₁ → Q .next { s with heap := h, toks := tk }) :
    LoopAtV prog w A h₀ env x body Q E (.ref I) s := by
  refine ⟨I, fp, wr, n, P, St, m₀, news, J, rfl, W, hLf, hwr, hnw, hst, F, N, hj, ?_, ?_⟩
  · rintro i v m₁ news₁ s₁ own ⟨hh', tk', rfl⟩ hin hP hJ hoff hown hget hfp hst₁ F₁ N₁
    have hw : ∀ b ∈ wr, b ∈ own.map (·.1) := fun b hb => by
      obtain ⟨o, ho⟩ := hlive _ _ _ hst₁ hb
      exact List.mem_map.mpr ⟨_, hfp b (W.sub b hb) (hwr b hb) o ho, rfl⟩
    have hsep : OwnOff own (news₁.map (·.1)) := by
      intro p hp b hb e
      obtain ⟨q, hq, rfl⟩ := List.mem_map.mp hb
      exact hoff q hq (e ▸ hfw _ (hown p hp) ((N₁ p (List.mem_append_left _ hp)).2.2))
    have N₂ : News h₀ env.locals hh' (news₁ ++ own) := fun p hp => N₁ p ((List.mem_append.mp hp).elim (fun h => List.mem_append.mpr (.inr h)) fun h => List.mem_append.mpr (.inl h))
    refine wpAny_mono (turn i v m₁ news₁ hh' tk' own hin hP hsep hJ F₁ N₂) (fun f s₂ p => ?_) fun _ _ e => e
    cases f with
    | ret v => exact .ret p
    | brk => exact .brk p
    | next => exact .next (stepU_of (I := I) hw p)
    | cont => exact .cont (stepU_of (I := I) hw p)
  · rintro h' tk m' news' F' N' _ hJ
    exact done m' news' h' tk hJ F' N'
/-- what a turn of a loop with another target must show -/
def TurnT (h₀ : Heap) (L : Addr) (J : (Str → Option Value) → List (Addr × Obj) → Prop) (own : List (Addr × Obj)) (s₁ : Shared) (f : Flow) (s₂ : Shared) : Prop := f = .next ∧ InvEndG h₀ L J own s₁ s₂
theorem loopT_core {target : Expr} {I : Addr} {fp wr : List Addr} {n : Nat} {P : Nat → Value → Prop} {St : Nat → Heap → Prop} {m₀ : Str → Option Value} {news : List (Addr × Obj)} (J : Nat → (Str → Option Value) → List (Addr × Obj) → Prop)
    (W : Walks prog w A I fp wr n P St) (hLf : env.locals ∉ fp) (hwr : ∀ b ∈ wr, h₀.get? b = none) (hfw : ∀ b ∈ fp, h₀.get? b = none → b ∈ wr) (hlive : ∀ i h b, St i h → b ∈ wr → ∃ o, h.get? b = some o)
    (hgo : ∀ i (s' : Shared) v (Q' : Unit → Shared → Prop), St i s'.heap → Q' () s' → wpAny (model prog w) A (letOwnedTupleGo target (.ref I) v) Q' E s')
    (hnw : ∀ p ∈ news, p.1 ∉ wr) (hst : St 0 s.heap) (F : Fr h₀ env.locals s.heap m₀) (N : News h₀ env.locals s.heap news) (hj : J 0 m₀ news)
    (turn : ∀ i v m₁ news₁ g own, i < n → P i v → OwnOff own (news₁.map (·.1)) → J i m₁ news₁ → Fr h₀ env.locals g.heap m₁ → News h₀ env.locals g.heap (news₁ ++ own) →
      wpAny (model prog w) A (assign target env v) (fun _ s₃ => wpAny (model prog w) A (execs body env) (TurnT h₀ env.locals (J (i + 1)) own g) E s₃) E g)
    (done : ∀ m₁ news₁ h tk, J n m₁ news₁ → Fr h₀ env.locals h m₁ → News h₀ env.locals h news₁ → Q .next { s with heap := h, toks := tk }) :
    LoopAtT prog w A h₀ env target body Q E (.ref I) s := by
  refine ⟨I, fp, wr, n, P, St, m₀, news, J, rfl, W, hLf, hwr, hnw, hst, F, N, hgo, hj, ?_, ?_⟩
  · rintro i v m₁ news₁ s₁ own hin hP hJ hoff hown hget hfp hst₁ F₁ N₁
    have hw : ∀ b ∈ wr, b ∈ own.map (·.1) := fun b hb => by
      obtain ⟨o, ho⟩ := hlive _ _ _ hst₁ hb
      exact List.mem_map.mpr ⟨_, hfp b (W.sub b hb) (hwr b hb) o ho, rfl⟩
    have hsep : OwnOff own (news₁.map (·.1)) := by
      intro p hp b hb e
      obtain ⟨q, hq, rfl⟩ := List.mem_map.mp hb
      exact hoff q hq (e ▸ hfw _ (hown p hp) ((N₁ p (List.mem_append_left _ hp)).2.2))
    have N₂ : News h₀ env.locals s₁.heap (news₁ ++ own) := fun p hp => N₁ p ((List.mem_append.mp hp).elim (fun h => List.mem_append.mpr (.inr h)) fun h => List.mem_append.mpr (.inl h))
    refine wpAny_mono (turn i v m₁ news₁ s₁ own hin hP hsep hJ F₁ N₂) (fun _ s₃ q => wpAny_mono q (fun f s₂ p => ?_) fun _ _ e => e) fun _ _ e => e
    obtain ⟨rfl, p⟩ := p
    exact stepU_of (I := I) hw p
  · rintro h' tk m' news' F' N' _ hJ
    exact done m' news' h' tk hJ F' N'
theorem walks_wr {I : Addr} {fp wr wr' : List Addr} {n : Nat} {P : Nat → Value → Prop} {St : Nat → Heap → Prop} (W : Walks prog w A I fp wr n P St) (h1 : ∀ b ∈ wr, b ∈ wr') (h2 : ∀ b ∈ wr', b ∈ fp) : Walks prog w A I fp wr' n P St where
  sub := h2
  frame := W.frame
  item := fun i s Q E hi st hQ => W.item i s Q E hi st fun v h' tk a b c => hQ v h' tk a b fun d o hd e => c d o (fun q => hd (h1 _ q)) e
  done := fun s Q E st hQ => W.done s Q E st fun h' tk c => hQ h' tk fun d o hd e => c d o (fun q => hd (h1 _ q)) e
  self := W.self
theorem live_iter {I l : Addr} {vs : List Value} {i : Nat} {h : Heap} (st : h.IsListIter I l i ∧ h.IsList l vs.toArray) : (∃ o, h.get? I = some o) ∧ ∃ o, h.get? l = some o :=
  ⟨let ⟨o, e, _⟩ := st.1; ⟨o, e⟩, let ⟨o, e, _⟩ := st.2; ⟨o, e⟩⟩
/-- a list that stood ahead of the call: any target -/
theorem iter_baseT {target : Expr} {l : Addr} {vs : List Value} {m₀ : Str → Option Value} {news : List (Addr × Obj)} (J : Nat → (Str → Option Value) → List (Addr × Obj) → Prop)
    (hh : A.handled = none) (hl : h₀.IsList l vs.toArray) (F : Fr h₀ env.locals s.heap m₀) (N : News h₀ env.locals s.heap news) (hj : J 0 m₀ news)
    (turn : ∀ i v m₁ news₁ g own, vs[i]? = some v → OwnOff own (news₁.map (·.1)) → J i m₁ news₁ → Fr h₀ env.locals g.heap m₁ → News h₀ env.locals g.heap (news₁ ++ own) →
      wpAny (model prog w) A (assign target env v) (fun _ s₃ => wpAny (model prog w) A (execs body env) (TurnT h₀ env.locals (J (i + 1)) own g) E s₃) E g)
    (done : ∀ m₁ news₁ h tk, J vs.length m₁ news₁ → Fr h₀ env.locals h m₁ → News h₀ env.locals h news₁ → Q .next { s with heap := h, toks := tk }) :
    wpAny (model prog w) A (pyIter (.ref l)) (fun it s₂ => LoopAtT prog w A h₀ env target body Q E it s₂) E s := by
  have hls : s.heap.IsList l vs.toArray := hl.at fun o e => F.keep l o e
  obtain ⟨ol, hol, _⟩ := id hl
  have hlt : l < h₀.objs.size := Heap.lt_size hol
  have hne : l ≠ s.heap.objs.size := Nat.ne_of_lt (Nat.lt_trans (Nat.lt_of_lt_of_le hlt F.above) F.ns.lt)
  refine wpAny_pyIter_list hls ?_
  have W := Walks.list (prog := prog) (w := w) hh s.heap.objs.size l hne vs.toArray
  refine loopT_core J W (fun hm => ?_) (fun b hb => ?_) (fun b hb hn => ?_) (fun i h b st hb => ?_) (fun i s' v Q' st hQ' => letGo_listiter st.1 hQ') (fun p hp hI => ?_) ⟨⟨_, Heap.get?_push_size _ rfl, rfl, rfl⟩, hls.at fun o e => Heap.get?_push_of_some _ e⟩ (F.push _) (fun p hp => ⟨Heap.get?_push_of_some _ (N p hp).1, (N p hp).2⟩) hj (fun i v m₁ news₁ g own hi hP => turn i v m₁ news₁ g own (by simpa using hP)) (fun m₁ news₁ h tk hJ => done m₁ news₁ h tk (by simpa using hJ))
  · rcases List.mem_cons.mp hm with e | hm
    · exact absurd F.ns.lt (e ▸ Nat.lt_irrefl _)
    · exact absurd (Nat.lt_of_lt_of_le hlt F.above) ((List.mem_singleton.mp hm) ▸ Nat.lt_irrefl _)
  · rw [List.mem_singleton.mp hb]; exact next_is_new F
  · rcases List.mem_cons.mp hb with e | hm
    · rw [e]; exact .head _
    · rw [List.mem_singleton.mp hm, hol] at hn; cases hn
  · rw [List.mem_singleton.mp hb]; exact (live_iter st).1
  · exact absurd (Heap.lt_size (N p hp).1) ((List.mem_singleton.mp hI) ▸ Nat.lt_irrefl _)
/-- a list that stood ahead of the call: a name -/
theorem iter_baseV {l : Addr} {vs : List Value} {m₀ : Str → Option Value} {news : List (Addr × Obj)} (J : Nat → (Str → Option Value) → List (Addr × Obj) → Prop)
    (hh : A.handled = none) (hl : h₀.IsList l vs.toArray) (F : Fr h₀ env.locals s.heap m₀) (N : News h₀ env.locals s.heap news) (hj : J 0 m₀ news)
    (turn : ∀ i v m₁ news₁ h tk own, vs[i]? = some v → OwnOff own (news₁.map (·.1)) → J i m₁ news₁ → Fr h₀ env.locals h (fun y => if y = x then some v else m₁ y) → News h₀ env.locals h (news₁ ++ own) →
      wpAny (model prog w) A (execs body env) (InvPostG h₀ env.locals (J (i + 1)) own { s with heap := h, toks := tk } Q) E { s with heap := h, toks := tk })
    (done : ∀ m₁ news₁ h tk, J vs.length m₁ news₁ → Fr h₀ env.locals h m₁ → News h₀ env.locals h news₁ → Q .next { s with heap := h, toks := tk }) :
    wpAny (model prog w) A (pyIter (.ref l)) (fun it s₂ => LoopAtV prog w A h₀ env x body Q E it s₂) E s := by
  have hls : s.heap.IsList l vs.toArray := hl.at fun o e => F.keep l o e
  obtain ⟨ol, hol, _⟩ := id hl
  have hlt : l < h₀.objs.size := Heap.lt_size hol
  have hne : l ≠ s.heap.objs.size := Nat.ne_of_lt (Nat.lt_trans (Nat.lt_of_lt_of_le hlt F.above) F.ns.lt)
  refine wpAny_pyIter_list hls ?_
  have W := Walks.list (prog := prog) (w := w) hh s.heap.objs.size l hne vs.toArray
  refine loopV_core J W (fun hm => ?_) (fun b hb => ?_) (fun b hb hn => ?_) (fun i h b st hb => ?_) (fun p hp hI => ?_) ⟨⟨_, Heap.get?_push_size _ rfl, rfl, rfl⟩, hls.at fun o e => Heap.get?_push_of_some _ e⟩ (F.push _) (fun p hp => ⟨Heap.get?_push_of_some _ (N p hp).1, (N p hp).2⟩) hj (fun i v m₁ news₁ h tk own hi hP => turn i v m₁ news₁ h tk own (by simpa using hP)) (fun m₁ news₁ h tk hJ => done m₁ news₁ h tk (by simpa using hJ))
  · rcases List.mem_cons.mp hm with e | hm
    · exact absurd F.ns.lt (e ▸ Nat.lt_irrefl _)
    · exact absurd (Nat.lt_of_lt_of_le hlt F.above) ((List.mem_singleton.mp hm) ▸ Nat.lt_irrefl _)
  · rw [List.mem_singleton.mp hb]; exact next_is_new F
  · rcases List.mem_cons.mp hb with e | hm
    · rw [e]; exact .head _
    · rw [List.mem_singleton.mp hm, hol] at hn; cases hn
  · rw [List.mem_singleton.mp hb]; exact (live_iter st).1
  · exact absurd (Heap.lt_size (N p hp).1) ((List.mem_singleton.mp hI) ▸ Nat.lt_irrefl _)
/-- a list of the call's own that the turns leave alone: a name -/
theorem iter_ownV {l : Addr} {lo : Obj} {vs : List Value} {m₀ : Str → Option Value} {news : List (Addr × Obj)} (J : Nat → (Str → Option Value) → List (Addr × Obj) → Prop)
    (hh : A.handled = none) (F : Fr h₀ env.locals s.heap m₀) (N : News h₀ env.locals s.heap ((l, lo) :: news)) (hc : lo.cls = .type "list") (hd : ∃ k, lo.data = .seq vs.toArray k) (hnl : ∀ p ∈ news, p.1 ≠ l) (hj : J 0 m₀ news)
    (turn : ∀ i v m₁ news₁ h tk own, vs[i]? = some v → OwnOff own (news₁.map (·.1)) → J i m₁ news₁ → Fr h₀ env.locals h (fun y => if y = x then some v else m₁ y) → News h₀ env.locals h (news₁ ++ own) →
      wpAny (model prog w) A (execs body env) (InvPostG h₀ env.locals (J (i + 1)) own { s with heap := h, toks := tk } Q) E { s with heap := h, toks := tk })
    (done : ∀ m₁ news₁ h tk, J vs.length m₁ news₁ → Fr h₀ env.locals h m₁ → News h₀ env.locals h news₁ → Q .next { s with heap := h, toks := tk }) :
    wpAny (model prog w) A (pyIter (.ref l)) (fun it s₂ => LoopAtV prog w A h₀ env x body Q E it s₂) E s := by
  have hol := (N _ (.head _)).1
  have hls : s.heap.IsList l vs.toArray := ⟨lo, hol, hc, hd⟩
  have hne : l ≠ s.heap.objs.size := Nat.ne_of_lt (Heap.lt_size hol)
  refine wpAny_pyIter_list hls ?_
  have W := walks_wr (wr' := [s.heap.objs.size, l]) (Walks.list (prog := prog) (w := w) hh s.heap.objs.size l hne vs.toArray) (fun b hb => by simp at hb; simp [hb]) fun b hb => hb
  refine loopV_core J W (fun hm => ?_) (fun b hb => ?_) (fun b hb hn => hb) (fun i h b st hb => ?_) (fun p hp hI => ?_) ⟨⟨_, Heap.get?_push_size _ rfl, rfl, rfl⟩, hls.at fun o e => Heap.get?_push_of_some _ e⟩ (F.push _) (fun p hp => ⟨Heap.get?_push_of_some _ (N p (.tail _ hp)).1, (N p (.tail _ hp)).2⟩) hj (fun i v m₁ news₁ h tk own hi hP => turn i v m₁ news₁ h tk own (by simpa using hP)) (fun m₁ news₁ h tk hJ => done m₁ news₁ h tk (by simpa using hJ))
  · rcases List.mem_cons.mp hm with e | hm
    · exact absurd F.ns.lt (e ▸ Nat.lt_irrefl _)
    · exact (N _ (.head _)).2.1 (List.mem_singleton.mp hm).symm
  · rcases List.mem_cons.mp hb with e | hm
    · rw [e]; exact next_is_new F
    · rw [List.mem_singleton.mp hm]; exact (N _ (.head _)).2.2
  · rcases List.mem_cons.mp hb with e | hm
    · rw [e]; exact (live_iter st).1
    · rw [List.mem_singleton.mp hm]; exact (live_iter st).2
  · rcases List.mem_cons.mp hI with e | hm
    · exact absurd (Heap.lt_size (N p (.tail _ hp)).1) (e ▸ Nat.lt_irrefl _)
    · exact hnl p hp (List.mem_singleton.mp hm)
/-- a list of the call's own that the turns leave alone: any target -/
theorem iter_ownT {target : Expr} {l : Addr} {lo : Obj} {vs : List Value} {m₀ : Str → Option Value} {news : List (Addr × Obj)} (J : Nat → (Str → Option Value) → List (Addr × Obj) → Prop)
    (hh : A.handled = none) (F : Fr h₀ env.locals s.heap m₀) (N : News h₀ env.locals s.heap ((l, lo) :: news)) (hc : lo.cls = .type "list") (hd : ∃ k, lo.data = .seq vs.toArray k) (hnl : ∀ p ∈ news, p.1 ≠ l) (hj : J 0 m₀ news)
    (turn : ∀ i v m₁ news₁ g own, vs[i]? = some v → OwnOff own (news₁.map (·.1)) → J i m₁ news₁ → Fr h₀ env.locals g.heap m₁ → News h₀ env.locals g.heap (news₁ ++ own) →
      wpAny (model prog w) A (assign target env v) (fun _ s₃ => wpAny (model prog w) A (execs body env) (TurnT h₀ env.locals (J (i + 1)) own g) E s₃) E g)
    (done : ∀ m₁ news₁ h tk, J vs.length m₁ news₁ → Fr h₀ env.locals h m₁ → News h₀ env.locals h news₁ → Q .next { s with heap := h, toks := tk }) :
    wpAny (model prog w) A (pyIter (.ref l)) (fun it s₂ => LoopAtT prog w A h₀ env target body Q E it s₂) E s := by
  have hol := (N _ (.head _)).1
  have hls : s.heap.IsList l vs.toArray := ⟨lo, hol, hc, hd⟩
  have hne : l ≠ s.heap.objs.size := Nat.ne_of_lt (Heap.lt_size hol)
  refine wpAny_pyIter_list hls ?_
  have W := walks_wr (wr' := [s.heap.objs.size, l]) (Walks.list (prog := prog) (w := w) hh s.heap.objs.size l hne vs.toArray) (fun b hb => by simp at hb; simp [hb]) fun b hb => hb
  refine loopT_core J W (fun hm => ?_) (fun b hb => ?_) (fun b hb hn => hb) (fun i h b st hb => ?_) (fun i s' v Q' st hQ' => letGo_listiter st.1 hQ') (fun p hp hI => ?_) ⟨⟨_, Heap.get?_push_size _ rfl, rfl, rfl⟩, hls.at fun o e => Heap.get?_push_of_some _ e⟩ (F.push _) (fun p hp => ⟨Heap.get?_push_of_some _ (N p (.tail _ hp)).1, (N p (.tail _ hp)).2⟩) hj (fun i v m₁ news₁ g own hi hP => turn i v m₁ news₁ g own (by simpa using hP)) (fun m₁ news₁ h tk hJ => done m₁ news₁ h tk (by simpa using hJ))
  · rcases List.mem_cons.mp hm with e | hm
    · exact absurd F.ns.lt (e ▸ Nat.lt_irrefl _)
    · exact (N _ (.head _)).2.1 (List.mem_singleton.mp hm).symm
  · rcases List.mem_cons.mp hb with e | hm
    · rw [e]; exact next_is_new F
    · rw [List.mem_singleton.mp hm]; exact (N _ (.head _)).2.2
  · rcases List.mem_cons.mp hb with e | hm
    · rw [e]; exact (live_iter st).1
    · rw [List.mem_singleton.mp hm]; exact (live_iter st).2
  · rcases List.mem_cons.mp hI with e | hm
    · exact absurd (Heap.lt_size (N p (.tail _ hp)).1) (e ▸ Nat.lt_irrefl _)
    · exact hnl p hp (List.mem_singleton.mp hm)
/-- a range of any step: a name -/
theorem iter_rangeC {r : Addr} {a₀ b₀ c₀ : Int} {t₀ u₀ v₀ : Tok} {n : Nat} {m₀ : Str → Option Value} {news : List (Addr × Obj)} (J : Nat → (Str → Option Value) → List (Addr × Obj) → Prop)
    (hh : A.handled = none) (hr : IsRange s.heap r a₀ b₀ c₀ t₀ u₀ v₀) (hsmall : Builtin.Range.small a₀ b₀ c₀ = true) (hn : Builtin.Range.rangeSize a₀ b₀ c₀ = (n : Int)) (F : Fr h₀ env.locals s.heap m₀) (N : News h₀ env.locals s.heap news) (hj : J 0 m₀ news)
    (turn : ∀ i t m₁ news₁ h tk own, i < n → OwnOff own (news₁.map (·.1)) → J i m₁ news₁ → Fr h₀ env.locals h (fun y => if y = x then some (.int (a₀ + (i : Int) * c₀) t) else m₁ y) → News h₀ env.locals h (news₁ ++ own) →
      wpAny (model prog w) A (execs body env) (InvPostG h₀ env.locals (J (i + 1)) own { s with heap := h, toks := tk } Q) E { s with heap := h, toks := tk })
    (done : ∀ m₁ news₁ h tk, J n m₁ news₁ → Fr h₀ env.locals h m₁ → News h₀ env.locals h news₁ → Q .next { s with heap := h, toks := tk }) :
    wpAny (model prog w) A (pyIter (.ref r)) (fun it s₂ => LoopAtV prog w A h₀ env x body Q E it s₂) E s := by
  refine wpAny_pyIter_range hr hsmall ?_
  have W : Walks prog w A s.heap.objs.size [s.heap.objs.size] [s.heap.objs.size] n (fun i v => i < n ∧ ∃ t, v = .int (a₀ + i * c₀) t)
      (fun i h => IsRangeIter h s.heap.objs.size (a₀ + (i : Nat) * c₀) ((n : Int) - (i : Nat)) c₀) := (Walks.range hh _ a₀ c₀ n).bound
  refine loopV_core J W (fun hm => ?_) (fun b hb => ?_) (fun b hb _ => hb) (fun i h b st hb => ?_) (fun p hp hI => ?_) (by show IsRangeIter _ _ _ _ _; rw [hn]; simpa using Heap.get?_push_size _ rfl) (F.push _) (fun p hp => ⟨Heap.get?_push_of_some _ (N p hp).1, (N p hp).2⟩) hj (fun i v m₁ news₁ h tk own hi hP => ?_) done
  · exact absurd F.ns.lt ((List.mem_singleton.mp hm) ▸ Nat.lt_irrefl _)
  · rw [List.mem_singleton.mp hb]; exact next_is_new F
  · rw [List.mem_singleton.mp hb]; exact ⟨_, st⟩
  · exact absurd (Heap.lt_size (N p hp).1) ((List.mem_singleton.mp hI) ▸ Nat.lt_irrefl _)
  · obtain ⟨_, t, rfl⟩ := hP
    exact turn i t m₁ news₁ h tk own hi
theorem inv_end1 {L : Addr} {J : (Str → Option Value) → List (Addr × Obj) → Prop} {m' : Str → Option Value} {own : List (Addr × Obj)} {a : Addr} {o : Obj} {s₁ : Shared} {h' : Heap} {tk : Nat} (F : Fr h₀ L h' m') (N : News h₀ L h' ((a, o) :: own))
    (hj : J m' [(a, o)]) (ha : ∀ q ∈ own, q.1 ≠ a) : InvEndG h₀ L J own s₁ { s₁ with heap := h', toks := tk } :=
  InvEndG.intro F N hj (fun q hq b hb => by simp at hb; rw [hb]; exact ha q hq) (fun q hq => by simp at hq; rw [hq]; exact .head _) fun q hq => .tail _ hq
theorem inv_end2 {L : Addr} {J : (Str → Option Value) → List (Addr × Obj) → Prop} {m' : Str → Option Value} {own : List (Addr × Obj)} {a b : Addr} {o ob : Obj} {s₁ : Shared} {h' : Heap} {tk : Nat} (F : Fr h₀ L h' m') (N : News h₀ L h' ((a, o) :: (b, ob) :: own))
    (hj : J m' [(a, o), (b, ob)]) (ha : ∀ q ∈ own, q.1 ≠ a) (hb : ∀ q ∈ own, q.1 ≠ b) : InvEndG h₀ L J own s₁ { s₁ with heap := h', toks := tk } :=
  InvEndG.intro F N hj (fun q hq c hc => by simp at hc; rcases hc with rfl | rfl; exact ha q hq; exact hb q hq) (fun q hq => by simp at hq; rcases hq with rfl | rfl; exact .head _; exact .tail _ (.head _)) fun q hq => .tail _ (.tail _ hq)
theorem inv_end0 {L : Addr} {J : (Str → Option Value) → List (Addr × Obj) → Prop} {m' : Str → Option Value} {own : List (Addr × Obj)} {s₁ : Shared} {h' : Heap} {tk : Nat} (F : Fr h₀ L h' m') (N : News h₀ L h' own)
    (hj : J m' []) : InvEndG h₀ L J own s₁ { s₁ with heap := h', toks := tk } :=
  InvEndG.intro F N hj (fun q hq b hb => by simp at hb) (fun q hq => by simp at hq) fun q hq => hq
end
theorem news_tail {h₀ h' : Heap} {L : Addr} {p : Addr × Obj} {news : List (Addr × Obj)} (N : News h₀ L h' (p :: news)) : News h₀ L h' news := fun q hq => N q (.tail _ hq)
end Mine
end
section
open PySem PySem.W PySem.Calls PySem.Spec PyProof PyProof.Rows
set_option Elab.async false
namespace Mine
/-- the values at hand are references to tuples of three ints, in the heap -/
def TupsAt (h : Heap) : List Value → List (Nat × Nat × Nat) → Prop
  | [], [] => True
  | v :: vs, b :: bl => (∃ a x y z, v = .ref a ∧ h.get? a = some (tup3 b x y z)) ∧ TupsAt h vs bl
  | _, _ => False
theorem TupsAt.get {h : Heap} : ∀ {vs : List Value} {bl : List (Nat × Nat × Nat)} (_ : TupsAt h vs bl) {i : Nat} {v : Value}, vs[i]? = some v → ∃ a b x y z, bl[i]? = some b ∧ v = .ref a ∧ h.get? a = some (tup3 b x y z)
  | [], _, _, i, v, e => by simp at e
  | _ :: _, b :: _, ⟨⟨a, x, y, z, e1, e2⟩, _⟩, 0, v, e => by
    simp at e; subst e; exact ⟨a, b, x, y, z, rfl, e1, e2⟩
  | _ :: _, _ :: _, ⟨_, T⟩, i + 1, v, e => by
    simp only [List.getElem?_cons_succ] at e ⊢
    exact T.get e
  | _ :: _, [], T, _, _, _ => T.elim
theorem TupsAt.length {h : Heap} : ∀ {vs : List Value} {bl : List (Nat × Nat × Nat)}, TupsAt h vs bl → vs.length = bl.length
  | [], [], _ => rfl
  | _ :: _, _ :: _, ⟨_, T⟩ => congrArg (· + 1) (TupsAt.length T)
  | [], _ :: _, T => T.elim
  | _ :: _, [], T => T.elim
/-- blocks in order, within eight signs -/
def okB : Nat → Nat → List (Nat × Nat × Nat) → Prop
  | i, j, [] => i ≤ 8 ∧ j ≤ 8
  | i, j, b :: r => i ≤ b.1 ∧ j ≤ b.2.1 ∧ okB (b.1 + b.2.2) (b.2.1 + b.2.2) r
abbrev JSt := List (List Nat) × List Nat × List Nat × Nat × Nat
/-- a turn of _law_joined: the pieces but the last, the last, both, i, j -/
def joinStep (f g : List Nat) (st : JSt) (b : Nat × Nat × Nat) : JSt :=
  ((if b.1 > st.2.2.2.1 ∨ b.2.1 > st.2.2.2.2 then (st.1 ++ [st.2.1], []) else (st.1, st.2.1)).1,
   (if b.1 > st.2.2.2.1 ∨ b.2.1 > st.2.2.2.2 then (st.1 ++ [st.2.1], []) else (st.1, st.2.1)).2 ++ (f.drop b.1).take b.2.2,
   st.2.2.1 ++ (f.drop st.2.2.2.1).take (b.1 - st.2.2.2.1) ++ (g.drop st.2.2.2.2).take (b.2.1 - st.2.2.2.2) ++ (f.drop b.1).take b.2.2,
   b.1 + b.2.2, b.2.1 + b.2.2)
def joinM (f g : List Nat) (bl : List (Nat × Nat × Nat)) : JSt := bl.foldl (joinStep f g) ([], [], [], 0, 0)
/-- values that are texts -/
def StrsOf : List Value → List (List Nat) → Prop
  | [], [] => True
  | v :: vs, x :: xs => (∃ t, v = .str ⟨x.toArray⟩ t) ∧ StrsOf vs xs
  | _, _ => False
theorem okB_le : ∀ {i j : Nat} {l : List (Nat × Nat × Nat)}, okB i j l → i ≤ 8 ∧ j ≤ 8
  | _, _, [], h => h
  | i, j, b :: r, ⟨h1, h2, h3⟩ => by have := okB_le h3; omega
theorem StrsOf.append : ∀ {vs vs' : List Value} {xs xs' : List (List Nat)}, StrsOf vs xs → StrsOf vs' xs' → StrsOf (vs ++ vs') (xs ++ xs')
  | [], _, [], _, _, h => h
  | _ :: _, _, _ :: _, _, ⟨a, h⟩, h' => ⟨a, StrsOf.append h h'⟩
  | [], _, _ :: _, _, h, _ => h.elim
  | _ :: _, _, [], _, h, _ => h.elim
theorem StrsOf.length : ∀ {vs : List Value} {xs : List (List Nat)}, StrsOf vs xs → vs.length = xs.length
  | [], [], _ => rfl
  | _ :: _, _ :: _, ⟨_, h⟩ => congrArg (· + 1) (StrsOf.length h)
  | [], _ :: _, h => h.elim
  | _ :: _, [], h => h.elim
theorem take_succ_of {α : Type} {l : List α} {i : Nat} {a : α} (h : l[i]? = some a) : l.take (i + 1) = l.take i ++ [a] := by rw [List.take_add_one, h]; rfl
theorem joinM_succ {f g : List Nat} {bl : List (Nat × Nat × Nat)} {i : Nat} {b : Nat × Nat × Nat} (h : bl[i]? = some b) : joinM f g (bl.take (i + 1)) = joinStep f g (joinM f g (bl.take i)) b := by
  unfold joinM; rw [take_succ_of h, List.foldl_append]; rfl
theorem joinM_ok (f g : List Nat) (bl : List (Nat × Nat × Nat)) (hb : okB 0 0 bl) : ∀ i, i ≤ bl.length →
    okB (joinM f g (bl.take i)).2.2.2.1 (joinM f g (bl.take i)).2.2.2.2 (bl.drop i) ∧ (joinM f g (bl.take i)).2.1.length ≤ (joinM f g (bl.take i)).2.2.2.1 ∧
    (joinM f g (bl.take i)).2.2.1.length ≤ (joinM f g (bl.take i)).2.2.2.1 + (joinM f g (bl.take i)).2.2.2.2 ∧ (joinM f g (bl.take i)).1.length ≤ i
  | 0, _ => by simpa [joinM] using hb
  | i + 1, hi => by
    obtain ⟨h1, h2, h3, h4⟩ := joinM_ok f g bl hb i (by omega)
    have e : bl[i]? = some bl[i] := List.getElem?_eq_getElem (by omega)
    rw [joinM_succ e]
    generalize joinM f g (bl.take i) = st at h1 h2 h3 h4
    rw [List.drop_eq_getElem_cons (by omega : i < bl.length)] at h1
    obtain ⟨k1, k2, k3⟩ := h1
    refine ⟨k3, ?_, ?_, ?_⟩
    · unfold joinStep
      dsimp only
      split <;> simp only [List.length_append, List.length_take, List.length_nil] <;> omega
    · unfold joinStep
      simp only [List.length_append, List.length_take]
      omega
    · unfold joinStep
      dsimp only
      split <;> simp only [List.length_append, List.length_cons, List.length_nil] <;> omega
end Mine
end
section
open PySem PySem.W PySem.Calls PySem.Spec PyProof PyProof.Rows PySem.Builtin PySem.Builtin.Str
set_option Elab.async false
namespace Mine
def find4 (x y : Str) (i j : Int) : Int := match occurrences x y (fromIndex x.length i) (min (fromIndex x.length j) x.length) 1 with | k :: _ => (k : Int) | [] => -1
theorem gives_find4 (x y : Str) (i j : Int) (t u v z : Tok) : Gives («str.find» ⟨[.str x t, .str y u, .int i v, .int j z], []⟩) (.int (find4 x y i j)) := by
  show Gives (match occurrences x y (fromIndex x.length i) (min (fromIndex x.length j) x.length) 1 with | k :: _ => retInt k | [] => (do rule "str.find.not-found"; retInt (-1))) _
  unfold find4
  cases occurrences x y (fromIndex x.length i) (min (fromIndex x.length j) x.length) 1 with
  | nil => exact .rule (.of_eq rfl)
  | cons k _ => exact .of_eq rfl
section
variable {prog : Program} {w : World} {A : Around} {E : Value → Shared → Prop} {s : Shared} {x y : Str} {t u v z : Tok} {i j : Int} {Q : Value → Shared → Prop}
theorem call_find4 (hq : Q (.int (find4 x y i j) s.toks) { s with toks := s.toks + 1 }) : wpAny (model prog w) A (call (.builtin "str.find") [.str x t, .str y u, .int i v, .int j z]) Q E s :=
  call_gives F.slot_str_find (typeIs_str _ _ _) F.entry_str_find (F.args_str_find_4 _ _ _ _) (gives_find4 x y i j t u v z) hq
end
theorem occ_at (x y : Str) (lo hi : Nat) :
    (occurrences x y lo hi 1 = [] ∧ ∀ i, lo ≤ i → ¬ StrLaws.At x y hi i) ∨
    ∃ i r, occurrences x y lo hi 1 = i :: r ∧ lo ≤ i ∧ StrLaws.At x y hi i ∧ ∀ k, lo ≤ k → k < i → ¬ StrLaws.At x y hi k := by
  rw [StrLaws.occ_eq]
  rcases StrLaws.occ_first x y hi 1 (Nat.le_refl _) (List.range' lo (hi + 1 - lo)) lo (fun i hi => by have := List.mem_range'_1.mp hi; omega) with ⟨h0, hn⟩ | ⟨pre, a, post, e, h0, ha, hn⟩
  · refine .inl ⟨by rw [h0], fun i hlo hi => ?_⟩
    exact hn i (by have := hi.1; rw [List.mem_range'_1]; omega) hi
  · have hs := StrLaws.range'_split_from e
    refine .inr ⟨a, ((forIn (List.range' lo (hi + 1 - lo)) ((#[] : Array Nat), lo) (StrLaws.occBody x y hi 1)).run.fst.toList).tail, ?_, hs.1, ha, fun k hk0 hk => hn k (hs.2 k hk0 hk)⟩
    generalize (forIn (List.range' lo (hi + 1 - lo)) ((#[] : Array Nat), lo) (StrLaws.occBody x y hi 1)).run.fst = arr at h0
    have h1 : arr.toList[0]? = some a := by simpa using h0
    cases hL : arr.toList with
    | nil => rw [hL] at h1; cases h1
    | cons b t => rw [hL] at h1; simp at h1; rw [h1]; rfl
/-- q stands in text at i, ahead of last -/
def atB (text q : List Nat) (last i : Nat) : Bool := decide (i + q.length ≤ last) && ((text.drop i).take q.length == q)
def findM (text q : List Nat) (place last : Nat) : Option Nat := (List.range' place (last + 1 - place)).find? (atB text q last)
theorem at_iff (x y : Str) (hi i : Nat) : StrLaws.At x y hi i ↔ atB x.cps.toList y.cps.toList hi i = true := by
  unfold StrLaws.At atB subAt
  have e1 : y.length = y.cps.toList.length := by simp [Str.length]
  rw [Bool.and_eq_true, decide_eq_true_eq, e1]
  refine and_congr Iff.rfl ?_
  rw [beq_iff_eq, beq_iff_eq, ← Array.toList_inj]
  simp [Array.toList_extract, List.extract_eq_take_drop]
theorem find4_is (x y : Str) (i j : Nat) (hj : j ≤ x.length) : find4 x y i j = match findM x.cps.toList y.cps.toList i j with | some k => (k : Int) | none => -1 := by
  unfold find4
  have e1 : fromIndex x.length (i : Int) = i := by unfold fromIndex; have : ¬ (i : Int) < 0 := by omega
                                                   simp [this]
  have e2 : min (fromIndex x.length (j : Int)) x.length = j := by unfold fromIndex; have : ¬ (j : Int) < 0 := by omega
                                                                  simp [this]; omega
  rw [e1, e2]
  unfold findM
  rcases occ_at x y i j with ⟨h0, hn⟩ | ⟨k, r, h0, h1, h2, h3⟩
  · rw [h0]
    have : (List.range' i (j + 1 - i)).find? (atB x.cps.toList y.cps.toList j) = none := by
      rw [List.find?_eq_none]
      intro a ha hat
      exact hn a (List.mem_range'_1.mp ha).1 ((at_iff _ _ _ _).mpr hat)
    rw [this]
  · rw [h0]
    have : (List.range' i (j + 1 - i)).find? (atB x.cps.toList y.cps.toList j) = some k := by
      rw [List.find?_range'_eq_some]
      refine ⟨(at_iff _ _ _ _).mp h2, ?_, fun a ha hka => ?_⟩
      · have := h2.1; rw [List.mem_range'_1]; omega
      · have := h3 a ha hka
        rw [at_iff] at this
        simpa using this
    rw [this]
theorem findM_some {text q : List Nat} {place last k : Nat} (h : findM text q place last = some k) : place ≤ k ∧ k + q.length ≤ last ∧ (text.drop k).take q.length = q ∧ ∀ a, place ≤ a → a < k → atB text q last a = false := by
  unfold findM at h
  rw [List.find?_range'_eq_some] at h
  obtain ⟨h1, h2, h3⟩ := h
  unfold atB at h1
  simp only [Bool.and_eq_true, decide_eq_true_eq, beq_iff_eq] at h1
  exact ⟨(List.mem_range'_1.mp h2).1, h1.1, h1.2, fun a ha hk => by have := h3 a ha hk; simpa using this⟩
theorem findM_none {text q : List Nat} {place last : Nat} (h : findM text q place last = none) : ∀ a, place ≤ a → atB text q last a = false := by
  intro a ha
  unfold findM at h
  rw [List.find?_eq_none] at h
  by_cases hl : a ≤ last
  · have := h a (by rw [List.mem_range'_1]; omega)
    simpa using this
  · unfold atB
    rw [Bool.and_eq_false_iff]
    left
    rw [decide_eq_false_iff_not]
    omega
/-- the pieces between, one behind the other -/
def saidLoop (text : List Nat) (last : Nat) : List (List Nat) → Nat → Option Nat
  | [], place => some place
  | q :: qs, place => match findM text q place last with
    | none => none
    | some k => saidLoop text last qs (k + q.length)
def saidM (text : List Nat) (ps : List (List Nat)) : Bool :=
  if ps.length = 1 then text == ps.headD [] else
  if text.take (ps.headD []).length ≠ ps.headD [] ∨ text.length < (ps.headD []).length + (ps.getLastD []).length ∨ text.drop (text.length - (ps.getLastD []).length) ≠ ps.getLastD [] then false else
  (saidLoop text (text.length - (ps.getLastD []).length) ps.tail.dropLast (ps.headD []).length).isSome
theorem saidM_two (text p q : List Nat) (pm : List (List Nat)) : saidM text (p :: (pm ++ [q])) =
    if text.take p.length ≠ p ∨ text.length < p.length + q.length ∨ text.drop (text.length - q.length) ≠ q then false else (saidLoop text (text.length - q.length) pm p.length).isSome := by
  have e1 : (p :: (pm ++ [q])).getLastD [] = q := by
    rw [List.getLastD_eq_getLast?, ← List.cons_append, List.getLast?_concat]; rfl
  unfold saidM
  rw [if_neg (by simp), e1]
  simp only [List.headD_cons, List.tail_cons, List.dropLast_concat]
theorem slicePick_mid (v q : Value) (vm : List Value) : slicePick (v :: vm ++ [q]).toArray (some 1) (some (-1)) none = vm.toArray := by
  rw [slicePick_plain]
  have e1 : clipAt (v :: vm ++ [q]).toArray.size 1 = 1 := by rw [show (1 : Int) = ((1 : Nat) : Int) from rfl, clipAt_nat]; simp
  have e2 : clipAt (v :: vm ++ [q]).toArray.size (-1) = vm.length + 1 := by rw [show (-1 : Int) = -((1 : Nat) : Int) from rfl, clipAt_neg _ _ (Nat.le_refl _)]; simp
  simp only [Option.elim, e1, e2]
  simp
theorem saidLoop_append (text : List Nat) (last : Nat) : ∀ (a b : List (List Nat)) (pl : Nat), saidLoop text last (a ++ b) pl = (saidLoop text last a pl).bind (saidLoop text last b)
  | [], b, pl => rfl
  | q :: a, b, pl => by
    simp only [List.cons_append, saidLoop]
    cases findM text q pl last with
    | none => rfl
    | some k => exact saidLoop_append text last a b _
theorem saidLoop_le (text : List Nat) (last : Nat) : ∀ (a : List (List Nat)) (pl r : Nat), pl ≤ last → saidLoop text last a pl = some r → r ≤ last
  | [], pl, r, h, e => by cases e; exact h
  | q :: a, pl, r, h, e => by
    simp only [saidLoop] at e
    cases hf : findM text q pl last with
    | none => rw [hf] at e; cases e
    | some k => rw [hf] at e; exact saidLoop_le text last a _ r (findM_some hf).2.1 e
theorem StrsOf.get : ∀ {vs : List Value} {xs : List (List Nat)} (_ : StrsOf vs xs) {i : Nat} {v : Value}, vs[i]? = some v → ∃ x t, xs[i]? = some x ∧ v = .str ⟨x.toArray⟩ t
  | [], _, _, i, v, e => by simp at e
  | _ :: _, x :: _, ⟨⟨t, e1⟩, _⟩, 0, v, e => by
    simp at e; subst e; exact ⟨x, t, rfl, e1⟩
  | _ :: _, _ :: _, ⟨_, T⟩, i + 1, v, e => by
    simp only [List.getElem?_cons_succ] at e ⊢
    exact StrsOf.get T e
  | _ :: _, [], T, _, _, _ => T.elim
/-- texts with sep between -/
def joinL (sep : List Nat) : List (List Nat) → List Nat
  | [] => []
  | [x] => x
  | x :: y :: r => x ++ sep ++ joinL sep (y :: r)
theorem join_is (sep : List Nat) : ∀ xs : List (List Nat), Str.join ⟨sep.toArray⟩ (xs.map fun x => ⟨x.toArray⟩) = ⟨(joinL sep xs).toArray⟩
  | [] => rfl
  | [x] => rfl
  | x :: y :: r => by
    show ((⟨x.toArray⟩ : Str) ++ ⟨sep.toArray⟩) ++ Str.join ⟨sep.toArray⟩ ((y :: r).map fun x => ⟨x.toArray⟩) = _
    rw [join_is sep (y :: r), str_app, str_app]; rfl
theorem strsAre_of : ∀ {vs : List Value} {xs : List (List Nat)}, StrsOf vs xs → StrsAre vs (xs.map fun x => ⟨x.toArray⟩)
  | [], [], _ => .nil
  | _ :: _, _ :: _, ⟨⟨t, e⟩, h⟩ => by rw [e]; exact .cons _ _ (strsAre_of h)
  | [], _ :: _, h => h.elim
  | _ :: _, [], h => h.elim
theorem join_of {prog : Program} {w : World} {A : Around} {E : Value → Shared → Prop} {s : Shared} {sep : List Nat} {t : Tok} {Q : Value → Shared → Prop} {D : Addr} {vs : List Value} {xs : List (List Nat)}
    (hl : s.heap.IsList D vs.toArray) (hS : StrsOf vs xs) (hok : (xs.map List.length).sum + xs.length * sep.length ≤ 16777216)
    (h : ∀ t' k, Q (.str ⟨(joinL sep xs).toArray⟩ t') { s with toks := k }) : wpAny (model prog w) A (call (.builtin "str.join") [.str ⟨sep.toArray⟩ t, .ref D]) Q E s := by
  refine join_list hl (strsAre_of hS) ?_ fun t' k => ?_
  · have e1 : ((xs.map fun x => (⟨x.toArray⟩ : Str)).map (·.length)) = xs.map List.length := by
      rw [List.map_map]; rfl
    rw [e1, List.length_map]; exact hok
  · have e : Txt.join ⟨sep.toArray⟩ (xs.map fun x => (⟨x.toArray⟩ : Str)) = ⟨(joinL sep xs).toArray⟩ := by
      unfold Txt.join; rw [StrLaws.glued_eq_join, join_is]
    rw [e]; exact h t' k
end Mine
end
section
open PySem PySem.W PySem.Calls PySem.Spec PyProof PyProof.Rows
set_option Elab.async false
namespace Mine
set_option linter.unusedVariables false
local macro_rules | `(tactic| walk_at "pyIter ref") => `(tactic| (refine stop_of ?_))
local macro_rules | `(tactic| walk_at "call ref") => `(tactic| (refine stop_of ?_))
local macro_rules | `(tactic| k_steps) => `(tactic| repeat' (first | (k_unfold; (try dsimp only)) | walk1 | (dsimp only; walk1) | (leave1; (try dsimp only)) | fail "no step"))
local macro_rules | `(tactic| walk_at "exec While Compare cons nil") => `(tactic| ((fail_if_success (rename Go => hgo)); refine stop_of ?_))
set_option hygiene false in
local macro_rules | `(tactic| walk_at "FRAME") => `(tactic| (intro y; (try dsimp only); (repeat (refine fr_step (fun hy => (by first | exact absurd hy (by assumption) | (subst hy; first | rfl | kernel_rfl))) fun hy => ?_)); (repeat (first | refine fr_last (by assumption) ?_ | refine fr_rstep (fun hy => (by subst hy; first | rfl | kernel_rfl)) fun hy => ?_)); (try rfl)))
set_option hygiene false in
local macro_rules | `(tactic| walk_at "PUR") => `(tactic| (k_dflt (refine' pur_intro (by omega) ?k6 ?k7 ?k9 ?kB ?_ ?c2 ?c3 ?c4 ?c5; (case k6 => k_is); (case k7 => k_is); (case k9 => (intro _ Xb; first | exact BindsTo.of_eq rfl | exact binds_K (by k_in) rfl (by k_is) rfl rfl rfl)); (case c5 => decide); (case kB => exact locs rfl); (case c2 => exact rfl); (case c3 => exact rfl); (case c4 => exact rfl)); k_whole; intro dp un gd env outer base mean mg mb s E L' h₁ tk hd hu hP F1 N2 B X T; (try dsimp only); (try k_fold)))
set_option hygiene false in
local macro_rules | `(tactic| walk_at "ROOM") => `(tactic| (first | omega | (simp only [Around.deeper, topE]; omega)))
set_option hygiene false in
local macro_rules | `(tactic| walk_at "SITE") => `(tactic| (refine ⟨rfl, by assumption, _, _, _, _, _, _, _, rfl, rfl, rfl, B, X, T⟩))
local macro_rules | `(tactic| walk_at "binaryOp Add ref ref") => `(tactic| (refine stop_of ?_))
set_option hygiene false in
local macro_rules | `(tactic| walk_at "SUB") => `(tactic| (intro p hp; (try simp only [List.mem_cons, List.mem_append, List.not_mem_nil, or_false, false_or] at hp ⊢); (repeat' (refine Or.elim hp (fun hp => ?_) fun hp => ?_)); (all_goals (simp only [hp, true_or, or_true]))))
local macro_rules | `(tactic| walk_at "binaryOp Add str str") => `(tactic| ((refine PyProof.Rows.add_str (hsz := ?hsz) ?_); (case hsz => (first | (simp only [Str.length_append, sizeLine_eq]; omega) | size_fits)); intro _ _))
local macro_rules | `(tactic| k_all) => `(tactic| (refine allLt_ne (by assumption) ?_; omega))
local macro_rules | `(tactic| k_all) => `(tactic| with_reducible assumption)
set_option hygiene false in
local macro_rules | `(tactic| walk_at "PURC") => `(tactic| (k_dflt (refine' pur_introC (by omega) ?k6 ?k7 ?k9 ?kB ?kD ?_ ?c2 ?c3 ?c4; (case k6 => k_is); (case k7 => k_is); (case k9 => (intro _ Xb; first | exact BindsTo.of_eq rfl | exact binds_K (by k_in) rfl (by k_is) rfl rfl rfl)); (case kB => exact rfl); (case kD => decide +kernel); (case c2 => exact rfl); (case c3 => exact rfl); (case c4 => exact rfl)); k_whole; intro dp un gd env outer base mean mg mb s E L' h₁ tk cells hd hu hP F1 N2 Y2 B X T; k_cells Y2; (try simp only [List.cons_append, List.nil_append] at N2); (try dsimp only); (try k_fold)))
local macro_rules | `(tactic| walk_at "compareOp Is str ref") => `(tactic| (refine wpAny_is_other (by rfl) (by intro x; cases x) ?_))
local macro_rules | `(tactic| walk_at "exec For Name Name cons nil") => `(tactic| (refine stop_of ?_))
set_option hygiene false in
local macro_rules | `(tactic| walk_at "OWN") => `(tactic| (k_dflt (refine' own_intro (by omega) ?k6 ?k7 ?k9 ?kB ?_ ?c2 ?c3 ?c4 ?c5; (case k6 => k_is); (case k7 => k_is); (case k9 => (intro _ Xb; first | exact BindsTo.of_eq rfl | exact binds_K (by k_in) rfl (by k_is) rfl rfl rfl)); (case c5 => decide); (case kB => exact locs rfl); (case c2 => exact rfl); (case c3 => exact rfl); (case c4 => exact rfl)); k_whole; intro dp un gd env outer base mean mg mb s E L' h₁ tk hd hu hP F1 N2 B X T; (try dsimp only); (try k_fold)))
set_option hygiene false in
local macro_rules | `(tactic| walk_at "CLS") => `(tactic| (k_dflt (refine' cls_intro (by omega) ?kh ?ki ?kj ?km ?k6 ?k7 ?k9 ?kB ?_ ?c2 ?c3 ?c4 ?c5; (case km => walk_at "MONO"); (case kh => k_is); (case ki => k_is); (case kj => k_is); (case k6 => k_is); (case k7 => k_is); (case k9 => (intro _ _ Xb; first | exact BindsTo.of_eq rfl | exact binds_K (by k_in) rfl (by k_is) rfl rfl rfl)); (case c5 => decide); (case kB => (intro _; exact locs rfl)); (case c2 => exact rfl); (case c3 => exact rfl); (case c4 => exact rfl)); k_whole; intro dp un gd env outer base mean mg mb s E L' h₁ tk xI dI hd hu lI F1 N2 B X T; (try dsimp only); (try k_fold)))
set_option hygiene false in
local macro_rules | `(tactic| walk_at "ENTER") => `(tactic| (refine' code_def ?k1 ?k2 ?k3 ?k4 ?k5 ?kA ?kF ?kK ?k6 ?k7 ?k8 ?k9 ?kB ?_ ?c2 ?c3 ?c4 ?c5; (case kA => exact rfl); (case kF => exact rfl); (case kK => exact rfl); (case k1 => k_asm); (case k2 => k_asm); (case k3 => k_asm); (case k4 => k_asm); (case k5 => k_asm); (case k6 => k_is); (case k7 => k_is); (case k8 => (simp only [depth_under_make, depth_under_kw, depth_in1, depth_deeper, depth_caller, topE]; omega)); (case k9 => first | exact BindsTo.of_eq rfl | exact binds_K (by k_in) rfl (by k_is) rfl rfl rfl | fail "k_enter: no rule for these arguments"); (case c5 => decide); (case kB => exact locs rfl); (case c2 => exact rfl); (case c3 => exact rfl); (case c4 => exact rfl); k_whole; intro g' L2' h' FG' F' N' B' X' T'; (try dsimp only); (try k_lift B'); (try k_fold)))
set_option maxRecDepth 100000 in
set_option maxHeartbeats 800000 in
theorem t_blocks (w : World) : PySem.Challenge.rw_ik0097_01 = PySem.Challenge.rw_ik0097_01 → Kx = Kx → ∀ (n : Nat) (f g : Str) (i j : Nat) (t1 t2 t3 t4 : Tok), f.length < n → f.length ≤ 8 → g.length ≤ 8 → i + f.length ≤ 8 → j + g.length ≤ 8 →
    Pur w 343 [.str f t1, .str g t2, .int i t3, .int j t4] (n + 4) (4 * n + 40) (fun _ => True) (fun h v h' => ∃ r vs tl, v = .ref r ∧ NewIn h h' ((r, W.listOf vs.toArray 0) :: tl) ∧ TupsIn tl vs (blocksM n f.cps.toList g.cps.toList i j)) := by
  k_fill
  intro _ _ n
  induction n with
  | zero => intro f g i j t1 t2 t3 t4 h; exact absurd h (Nat.not_lt_zero _)
  | succ n ih =>
  intro f g i j t1 t2 t3 t4 hn hf hg hi hj
  have lf : f.cps.toList.length = f.length := by simp [Str.length]
  have lg : g.cps.toList.length = g.length := by simp [Str.length]
  have hfit := longest_fits f.cps.toList g.cps.toList
  unfold blocksM
  generalize hb : longest f.cps.toList g.cps.toList = b at hfit ⊢
  obtain ⟨X₁, Y₁, Z₁⟩ := b
  unfold fits at hfit
  dsimp only at hfit ⊢
  obtain ⟨hX, hY⟩ := hfit
  walk_at "PUR"
  have F2 := fr_as F1 (m' := fun y => List.lookup y [("j", .int j t4), ("i", .int i t3), ("second", .str g t2), ("first", .str f t1)]) (by intro y; kernel_rfl)
  clear F1
  simp only [lk_cons, lk_nil] at F2
  k_steps
  refine Stop.mk ?_
  refine pur_use (t_longest w f g _ _ rfl rfl hf hg) (by walk_at "SITE") (by walk_at "ROOM") (by walk_at "ROOM") trivial ?_
  rintro _ h2 tk2 hs F3 ⟨r, x, y, z, rfl, hn2, ho2⟩
  rw [hb] at ho2
  have N3 := news_add F2 (news_stay N2 hs) hn2 ho2
  clear F2 N2 
  dsimp only at hs hn2
  dsimp only
  k_steps
  · (rename News _ _ _ _ => N4)
    (rename Fr _ _ _ _ => F4)
    (rename _ = (0 : Int) => hZ)
    refine PEnd.intro F4 ⟨_, [], [], rfl, newIn_of N4 (by simp), ?_⟩
    rw [if_pos (by simpa using hZ)]
    exact trivial
  (rename News _ _ _ _ => N4)
  (rename Fr _ _ _ _ => F4)
  refine Stop.mk ?_
  rw [show ((X₁ : Int) + Z₁) = ((X₁ + Z₁ : Nat) : Int) by omega, show ((Y₁ : Int) + Z₁) = ((Y₁ + Z₁ : Nat) : Int) by omega, slice_from, slice_from, show ((i : Int) + X₁ + Z₁) = ((i + X₁ + Z₁ : Nat) : Int) by omega, show ((j : Int) + Y₁ + Z₁) = ((j + Y₁ + Z₁ : Nat) : Int) by omega]
  (rename ((_ : Nat) : Int) ≠ 0 => hZ)
  have hZ' : Z₁ ≠ 0 := fun e => hZ (by show ((Z₁ : Nat) : Int) = 0; omega)
  refine pur_use (ih _ _ _ _ _ _ _ _ (by simp [Str.length] at *; omega) (by simp [Str.length] at *; omega) (by simp [Str.length] at *; omega) (by simp [Str.length] at *; omega) (by simp [Str.length] at *; omega)) (by walk_at "SITE") (by walk_at "ROOM") (by walk_at "ROOM") trivial ?_
  rintro _ h3 tk3 hs3 F5 ⟨r2, vs2, tl2, rfl, hn3, ht2⟩
  dsimp only at hs3 hn3 ht2
  have N5 := news_sub (news_adds F4 N4 hs3 hn3) (led := (r2, W.listOf vs2.toArray 0) :: (r, tup3 (X₁, Y₁, Z₁) x y z) :: tl2) (by walk_at "SUB")
  clear F4 N4 
  dsimp only
  k_steps
  (rename News _ _ _ _ => N6)
  (rename Fr _ _ _ _ => F6)
  refine Stop.mk ?_
  rw [slice_to, slice_to]
  refine pur_use (ih _ _ _ _ _ _ _ _ (by simp [Str.length] at *; omega) (by simp [Str.length] at *; omega) (by simp [Str.length] at *; omega) (by simp [Str.length] at *; omega) (by simp [Str.length] at *; omega)) (by walk_at "SITE") (by walk_at "ROOM") (by walk_at "ROOM") trivial ?_
  rintro _ h4 tk4 hs4 F7 ⟨r4, vs4, tl4, rfl, hn4, ht4⟩
  dsimp only at hs4 hn4 ht4
  have N7 := news_sub (news_adds F6 N6 hs4 hn4) (led := (r4, W.listOf vs4.toArray 0) :: (r2, W.listOf vs2.toArray 0) :: (r, tup3 (X₁, Y₁, Z₁) x y z) :: (tl4 ++ tl2)) (by walk_at "SUB")
  clear F6 N6 
  dsimp only
  k_steps
  rename_i D₁ _ _ _ _ F8 N8 _
  refine Stop.mk ?_
  dsimp only
  refine kmk_add_lit F8 N8 ⟨_, N8.get (by k_mem), rfl, _, rfl⟩ ⟨_, N8.get (by k_mem), rfl, _, rfl⟩ rfl ?_ ?_
  · intro D3 h5 F9 N9 hD3
    clear F8 N8
    k_steps
    refine Stop.mk ?_
    dsimp only
    refine kmk_add_lit F9 N9 ⟨_, N9.get (by k_mem), rfl, _, rfl⟩ ⟨_, N9.get (by k_mem), rfl, _, rfl⟩ rfl ?_ ?_
    · intro D4 h6 F10 N10 hD4
      simp only [← Int.natCast_add] at N10
      obtain ⟨x1, y1, z1, hm⟩ : ∃ x1 y1 z1, s.heap.get? D₁ = none ∧ h6.get? D₁ = some (tup3 (i + X₁, j + Y₁, Z₁) x1 y1 z1) := ⟨_, _, _, (N10 _ (.tail _ (.tail _ (.tail _ (.head _))))).2.2, (N10 _ (.tail _ (.tail _ (.tail _ (.head _))))).1⟩
      have hr := N10 _ (.head _)
      refine PEnd.intro F10 ⟨D4, vs4 ++ [.ref D₁] ++ vs2, (D₁, tup3 (i + X₁, j + Y₁, Z₁) x1 y1 z1) :: (tl4 ++ tl2), rfl, ?_, ?_⟩
      · intro p hp
        rcases List.mem_cons.mp hp with rfl | hp
        · exact ⟨hr.2.2, by simpa using hr.1⟩
        · rcases List.mem_cons.mp hp with rfl | hp
          · exact hm
          · exact newIn_of N10 (led := tl4 ++ tl2) (by walk_at "SUB") p hp
      · rw [if_neg hZ']
        refine TupsIn.append (TupsIn.append (ht4.more (by walk_at "SUB")) ⟨⟨_, _, _, _, rfl, .head _⟩, trivial⟩) (ht2.more (by walk_at "SUB"))
    · have e2 := ht2.length
      have e4 := ht4.length
      have b2 := blocksM_length n (List.drop (X₁ + Z₁) f.cps.toList) (List.drop (Y₁ + Z₁) g.cps.toList) (i + X₁ + Z₁) (j + Y₁ + Z₁)
      have b4 := blocksM_length n (List.take X₁ f.cps.toList) (List.take Y₁ g.cps.toList) i j
      simp only [List.length_take, List.length_drop] at b2 b4
      simp [sizeLine_eq]
      omega
  · have e4 := ht4.length
    have b4 := blocksM_length n (List.take X₁ f.cps.toList) (List.take Y₁ g.cps.toList) i j
    simp only [List.length_take, List.length_drop] at b4
    simp [sizeLine_eq]
    omega
end Mine
end
section
open PySem PySem.W PySem.Calls PySem.Spec PyProof PyProof.Rows
set_option Elab.async false
namespace Mine
set_option linter.unusedVariables false
local macro_rules | `(tactic| walk_at "pyIter ref") => `(tactic| (refine stop_of ?_))
local macro_rules | `(tactic| walk_at "call ref") => `(tactic| (refine stop_of ?_))
local macro_rules | `(tactic| k_steps) => `(tactic| repeat' (first | (k_unfold; (try dsimp only)) | walk1 | (dsimp only; walk1) | (leave1; (try dsimp only)) | fail "no step"))
local macro_rules | `(tactic| walk_at "exec While Compare cons nil") => `(tactic| ((fail_if_success (rename Go => hgo)); refine stop_of ?_))
set_option hygiene false in
local macro_rules | `(tactic| walk_at "FRAME") => `(tactic| (intro y; (try dsimp only); (repeat (refine fr_step (fun hy => (by first | exact absurd hy (by assumption) | (subst hy; first | rfl | kernel_rfl))) fun hy => ?_)); (repeat (first | refine fr_last (by assumption) ?_ | refine fr_rstep (fun hy => (by subst hy; first | rfl | kernel_rfl)) fun hy => ?_)); (try rfl)))
set_option hygiene false in
local macro_rules | `(tactic| walk_at "PUR") => `(tactic| (k_dflt (refine' pur_intro (by omega) ?k6 ?k7 ?k9 ?kB ?_ ?c2 ?c3 ?c4 ?c5; (case k6 => k_is); (case k7 => k_is); (case k9 => (intro _ Xb; first | exact BindsTo.of_eq rfl | exact binds_K (by k_in) rfl (by k_is) rfl rfl rfl)); (case c5 => decide); (case kB => exact locs rfl); (case c2 => exact rfl); (case c3 => exact rfl); (case c4 => exact rfl)); k_whole; intro dp un gd env outer base mean mg mb s E L' h₁ tk hd hu hP F1 N2 B X T; (try dsimp only); (try k_fold)))
set_option hygiene false in
local macro_rules | `(tactic| walk_at "ROOM") => `(tactic| (first | omega | (simp only [Around.deeper, topE]; omega)))
set_option hygiene false in
local macro_rules | `(tactic| walk_at "SITE") => `(tactic| (refine ⟨rfl, by assumption, _, _, _, _, _, _, _, rfl, rfl, rfl, B, X, T⟩))
local macro_rules | `(tactic| walk_at "binaryOp Add ref ref") => `(tactic| (refine stop_of ?_))
set_option hygiene false in
local macro_rules | `(tactic| walk_at "SUB") => `(tactic| (intro p hp; (try simp only [List.mem_cons, List.mem_append, List.not_mem_nil, or_false, false_or] at hp ⊢); (repeat' (refine Or.elim hp (fun hp => ?_) fun hp => ?_)); (all_goals (simp only [hp, true_or, or_true]))))
local macro_rules | `(tactic| walk_at "binaryOp Add str str") => `(tactic| ((refine PyProof.Rows.add_str (hsz := ?hsz) ?_); (case hsz => (first | (simp only [Str.length_append, sizeLine_eq]; omega) | size_fits)); intro _ _))
local macro_rules | `(tactic| k_all) => `(tactic| (refine allLt_ne (by assumption) ?_; omega))
local macro_rules | `(tactic| k_all) => `(tactic| with_reducible assumption)
set_option hygiene false in
local macro_rules | `(tactic| walk_at "PURC") => `(tactic| (k_dflt (refine' pur_introC (by omega) ?k6 ?k7 ?k9 ?kB ?kD ?_ ?c2 ?c3 ?c4; (case k6 => k_is); (case k7 => k_is); (case k9 => (intro _ Xb; first | exact BindsTo.of_eq rfl | exact binds_K (by k_in) rfl (by k_is) rfl rfl rfl)); (case kB => exact rfl); (case kD => decide +kernel); (case c2 => exact rfl); (case c3 => exact rfl); (case c4 => exact rfl)); k_whole; intro dp un gd env outer base mean mg mb s E L' h₁ tk cells hd hu hP F1 N2 Y2 B X T; k_cells Y2; (try simp only [List.cons_append, List.nil_append] at N2); (try dsimp only); (try k_fold)))
local macro_rules | `(tactic| walk_at "compareOp Is str ref") => `(tactic| (refine wpAny_is_other (by rfl) (by intro x; cases x) ?_))
local macro_rules | `(tactic| walk_at "exec For Name Name cons nil") => `(tactic| (refine stop_of ?_))
set_option hygiene false in
local macro_rules | `(tactic| walk_at "OWN") => `(tactic| (k_dflt (refine' own_intro (by omega) ?k6 ?k7 ?k9 ?kB ?_ ?c2 ?c3 ?c4 ?c5; (case k6 => k_is); (case k7 => k_is); (case k9 => (intro _ Xb; first | exact BindsTo.of_eq rfl | exact binds_K (by k_in) rfl (by k_is) rfl rfl rfl)); (case c5 => decide); (case kB => exact locs rfl); (case c2 => exact rfl); (case c3 => exact rfl); (case c4 => exact rfl)); k_whole; intro dp un gd env outer base mean mg mb s E L' h₁ tk hd hu hP F1 N2 B X T; (try dsimp only); (try k_fold)))
set_option hygiene false in
local macro_rules | `(tactic| walk_at "CLS") => `(tactic| (k_dflt (refine' cls_intro (by omega) ?kh ?ki ?kj ?km ?k6 ?k7 ?k9 ?kB ?_ ?c2 ?c3 ?c4 ?c5; (case km => walk_at "MONO"); (case kh => k_is); (case ki => k_is); (case kj => k_is); (case k6 => k_is); (case k7 => k_is); (case k9 => (intro _ _ Xb; first | exact BindsTo.of_eq rfl | exact binds_K (by k_in) rfl (by k_is) rfl rfl rfl)); (case c5 => decide); (case kB => (intro _; exact locs rfl)); (case c2 => exact rfl); (case c3 => exact rfl); (case c4 => exact rfl)); k_whole; intro dp un gd env outer base mean mg mb s E L' h₁ tk xI dI hd hu lI F1 N2 B X T; (try dsimp only); (try k_fold)))
set_option hygiene false in
local macro_rules | `(tactic| walk_at "ENTER") => `(tactic| (refine' code_def ?k1 ?k2 ?k3 ?k4 ?k5 ?kA ?kF ?kK ?k6 ?k7 ?k8 ?k9 ?kB ?_ ?c2 ?c3 ?c4 ?c5; (case kA => exact rfl); (case kF => exact rfl); (case kK => exact rfl); (case k1 => k_asm); (case k2 => k_asm); (case k3 => k_asm); (case k4 => k_asm); (case k5 => k_asm); (case k6 => k_is); (case k7 => k_is); (case k8 => (simp only [depth_under_make, depth_under_kw, depth_in1, depth_deeper, depth_caller, topE]; omega)); (case k9 => first | exact BindsTo.of_eq rfl | exact binds_K (by k_in) rfl (by k_is) rfl rfl rfl | fail "k_enter: no rule for these arguments"); (case c5 => decide); (case kB => exact locs rfl); (case c2 => exact rfl); (case c3 => exact rfl); (case c4 => exact rfl); k_whole; intro g' L2' h' FG' F' N' B' X' T'; (try dsimp only); (try k_lift B'); (try k_fold)))
local macro_rules | `(tactic| walk_at "exec If") => `(tactic| ((fail_if_success (rename Go => hgo)); refine stop_of ?_))
local macro_rules | `(tactic| walk_at "setItem ref int") => `(tactic| (refine stop_of ?_))
local macro_rules | `(tactic| walk_at "subscriptTail Name UnaryOp ref int") => `(tactic| (refine stop_of ?_))
/-- the frame of _law_joined in the loop -/
abbrev frJ (f g : Str) (t1 t2 : Tok) (r p : Addr) (bo : List Nat) (tb : Tok) (i j : Nat) (ti tj : Tok) (ux uy us : Option Value) : Str → Option Value := fun (v : Str) => if v = "size" then us else if v = "y" then uy else if v = "x" then ux else
      if v = "j" then some (.int j tj) else if v = "i" then some (.int i ti) else if v = "pieces" then some (.ref p) else
      if v = "both" then some (.str ⟨bo.toArray⟩ tb) else if v = "blocks" then some (.ref r) else if v = "second" then some (.str g t2) else if v = "first" then some (.str f t1) else none
set_option maxRecDepth 100000 in
set_option maxHeartbeats 800000 in
theorem t_joined (w : World) : PySem.Challenge.rw_ik0097_01 = PySem.Challenge.rw_ik0097_01 → Kx = Kx → ∀ (f g : Str) (t1 t2 : Tok) (r : Addr) (vs : List Value) (bl : List (Nat × Nat × Nat)), f.length ≤ 8 → g.length ≤ 8 → okB 0 0 bl → bl.length ≤ 9 →
    Pur w 350 [.str f t1, .str g t2, .ref r] 3 30 (fun h => h.IsList r vs.toArray ∧ TupsAt h vs bl) (fun h v h' => ∃ a p pv t k, v = .ref a ∧ NewIn h h' [(a, { cls := .type "tuple", data := .seq #[.ref p, .str ⟨(joinM f.cps.toList g.cps.toList bl).2.2.1.toArray⟩ t] }), (p, W.listOf pv.toArray k)] ∧ StrsOf pv ((joinM f.cps.toList g.cps.toList bl).1 ++ [(joinM f.cps.toList g.cps.toList bl).2.1])) := by
  k_fill
  intro _ _ f g t1 t2 r vs bl hf hg hb hlen
  walk_at "PUR"
  obtain ⟨hr, hT⟩ := hP
  have F2 := fr_as F1 (m' := fun y => List.lookup y [("blocks", .ref r), ("second", .str g t2), ("first", .str f t1)]) (by intro y; kernel_rfl)
  clear F1
  simp only [lk_cons, lk_nil] at F2
  k_steps
  (rename Fr _ _ _ _ => F3)
  (rename News _ _ _ _ => N3)
  refine For_invT s.heap ?_ (by intro _; rfl)
  k_steps
  refine Stop.mk ?_
  refine iter_baseT (fun i m' nw => ∃ (p : Addr) (qs : List Value) (k : Nat) (tl tb ti tj : Tok) (ux uy us : Option Value), m' = frJ f g t1 t2 r p (joinM f.cps.toList g.cps.toList (bl.take i)).2.2.1 tb (joinM f.cps.toList g.cps.toList (bl.take i)).2.2.2.1 (joinM f.cps.toList g.cps.toList (bl.take i)).2.2.2.2 ti tj ux uy us ∧
    nw = [(p, W.listOf (qs ++ [Value.str ⟨(joinM f.cps.toList g.cps.toList (bl.take i)).2.1.toArray⟩ tl]).toArray k)] ∧ StrsOf qs (joinM f.cps.toList g.cps.toList (bl.take i)).1) rfl hr F3 (news_sub N3 (led := [(_, W.listOf #[Value.str (Str.ofString "") _] 0)]) (fun p hp => by simp at hp; rw [hp]; exact .tail _ (.tail _ (.head _)))) ?hj ?turn ?done
  case hj => exact ⟨_, [], 0, _, _, _, _, none, none, none, funext (by walk_at "FRAME"), rfl, trivial⟩
  case done =>
    clear F3 N3
    rintro m₁ news₁ h tk ⟨p, qs, k, tl, tb, ti, tj, ux, uy, us, rfl, rfl, hS⟩ F4 N4
    rw [← hT.length.symm, List.take_length] at hS F4 N4
    k_steps
    (rename Fr s.heap L' _ _ => F5)
    (rename News s.heap L' _ _ => N5)
    refine PEnd.intro F5 ⟨_, p, _, _, _, rfl, newIn_of N5 (fun q hq => hq), hS.append ⟨⟨_, rfl⟩, trivial⟩⟩
  case turn =>
    clear F3 N3
    rintro i v m₁ news₁ ⟨h, gg, dd, tk, oo⟩ own hv hoff ⟨p, qs, k, tl, tb, ti, tj, ux, uy, us, rfl, rfl, hS⟩ F4 N4
    dsimp only at F4 N4
    obtain ⟨a, ⟨X₁, Y₁, Z₁⟩, x1, y1, z1, hbi, rfl, ha⟩ := hT.get hv
    have hI : IsTup h a #[.int X₁ x1, .int Y₁ y1, .int Z₁ z1] := ⟨_, F4.keep _ _ ha, rfl, _, rfl⟩
    have hoffp : ∀ q ∈ own, q.1 ≠ p := fun q hq => hoff q hq p (by simp)
    have hil : i < bl.length := by
      rcases Nat.lt_or_ge i bl.length with h | h
      · exact h
      · rw [List.getElem?_eq_none h] at hbi; cases hbi
    obtain ⟨o1, o2, o3, o4⟩ := joinM_ok f.cps.toList g.cps.toList bl hb i (by omega)
    rw [List.drop_eq_getElem_cons hil, show bl[i] = (X₁, Y₁, Z₁) from by rw [List.getElem?_eq_getElem hil] at hbi; exact Option.some.inj hbi] at o1
    have hstep := joinM_succ (f := f.cps.toList) (g := g.cps.toList) hbi
    clear hoff
    rw [List.singleton_append] at N4
    generalize hst : joinM f.cps.toList g.cps.toList (bl.take i) = st at F4 N4 hS o1 o2 o3 o4 hstep
    obtain ⟨S1, S2, S3, I₁, J₁⟩ := st
    dsimp only at F4 N4 hS o1 o2 o3 o4
    obtain ⟨oa, ob, oc⟩ := o1
    have od := okB_le oc
    dsimp only at oa ob od
    have hql : qs.length ≤ 9 := by rw [hS.length]; omega
    have hS2 : (Str.mk S2.toArray).length ≤ 8 := by simp only [Str.length, List.size_toArray]; omega
    have hS3 : (Str.mk S3.toArray).length ≤ 16 := by simp only [Str.length, List.size_toArray]; omega
    k_steps
    refine Stop.mk ?_
    (try dsimp only)
    (rename Fr _ _ _ _ => F5)
    (rename News _ _ _ _ => N5)
    have F6 := fr_as F5 (m' := frJ f g t1 t2 r p S3 tb I₁ J₁ ti tj (some (.int X₁ x1)) (some (.int Y₁ y1)) (some (.int Z₁ z1))) (by walk_at "FRAME")
    clear F5
    refine wpAny_mono (Q := fun fl s' => Stop (∃ (qs' : List Value) (x' : List Nat) (t' : Tok) (k' : Nat) (h' : Heap) (tk' : Nat), fl = .next ∧ s' = { heap := h', gens := gg, drawn := dd, toks := tk', os := oo } ∧
      StrsOf qs' (if X₁ > I₁ ∨ Y₁ > J₁ then (S1 ++ [S2], []) else (S1, S2)).1 ∧ x' = (if X₁ > I₁ ∨ Y₁ > J₁ then (S1 ++ [S2], ([] : List Nat)) else (S1, S2)).2 ∧ Fr s.heap L' h' (frJ f g t1 t2 r p S3 tb I₁ J₁ ti tj (some (.int X₁ x1)) (some (.int Y₁ y1)) (some (.int Z₁ z1))) ∧
      News s.heap L' h' ((p, W.listOf (qs' ++ [Value.str ⟨x'.toArray⟩ t']).toArray k') :: own))) ?_ ?_ (fun _ _ e => e)
    · have hgo := Go.mk
      k_steps
      all_goals (rename Fr s.heap L' _ _ => F8)
      all_goals (rename News s.heap L' _ _ => N8)
      all_goals (try dsimp only)
      · (rename (I₁ : Int) < (X₁ : Int) => hlt)
        rw [if_pos (Or.inl (by omega))]
        exact ⟨qs ++ [Value.str ⟨S2.toArray⟩ tl], [], _, _, _, _, rfl, rfl, hS.append ⟨⟨_, rfl⟩, trivial⟩, rfl, F8, by rw [empty_str] at N8; simpa using N8⟩
      · (rename (J₁ : Int) < (Y₁ : Int) => hlt)
        rw [if_pos (Or.inr (by omega))]
        exact ⟨qs ++ [Value.str ⟨S2.toArray⟩ tl], [], _, _, _, _, rfl, rfl, hS.append ⟨⟨_, rfl⟩, trivial⟩, rfl, F8, by rw [empty_str] at N8; simpa using N8⟩
      · (rename ¬ (I₁ : Int) < (X₁ : Int) => hl1)
        (rename ¬ (J₁ : Int) < (Y₁ : Int) => hl2)
        rw [if_neg (by omega)]
        exact ⟨qs, S2, _, _, _, _, rfl, rfl, hS, rfl, F8, N8⟩
    · rintro fl s' ⟨⟨qs', x', t', k', h', tk', rfl, rfl, hS', hx', F7, N7⟩⟩
      clear F6 N5
      have hx8 : (Str.mk x'.toArray).length ≤ 8 := by
        rw [hx']; split
        · simp [Str.length]
        · exact hS2
      k_steps
      refine Stop.mk ?_
      (rename News _ _ _ _ => N8)
      refine getLast N8 (by k_mem) ?_
      k_steps
      refine Stop.mk ?_
      (rename Fr s.heap L' _ _ => F9)
      (rename News s.heap L' _ _ => N9)
      rw [slice_add, str_app]
      refine setLast F9 N9 (by k_upd) ?_
      intro h6 F10 N10
      clear F9 N9
      k_steps
      (rename Fr s.heap L' _ _ => F11)
      (rename News s.heap L' _ _ => N11)
      (try dsimp only)
      rw [slice_ij _ _ _ oa, slice_ij _ _ _ ob, slice_add, str_app, str_app, str_app, ← Int.natCast_add, ← Int.natCast_add] at F11
      have F12 := fr_as F11 (m' := frJ f g t1 t2 r p (S3 ++ (f.cps.toList.drop I₁).take (X₁ - I₁) ++ (g.cps.toList.drop J₁).take (Y₁ - J₁) ++ (f.cps.toList.drop X₁).take Z₁) _ (X₁ + Z₁) (Y₁ + Z₁) _ _ (some (.int X₁ x1)) (some (.int Y₁ y1)) (some (.int Z₁ z1))) (by walk_at "FRAME")
      refine ⟨rfl, inv_end1 F12 (news_tail N11) ⟨p, qs', k', ?tl, ?tb, ?ti, ?tj, some (.int X₁ x1), some (.int Y₁ y1), some (.int Z₁ z1), ?e1, ?e2, ?e3⟩ hoffp⟩
      case e1 => rw [hstep]; rfl
      case e2 => rw [hstep, hx']; rfl
      case e3 => rw [hstep]; exact hS'
end Mine
end
section
open PySem PySem.W PySem.Calls PySem.Spec PyProof PyProof.Rows
set_option Elab.async false
namespace Mine
set_option linter.unusedVariables false
local macro_rules | `(tactic| walk_at "pyIter ref") => `(tactic| (refine stop_of ?_))
local macro_rules | `(tactic| walk_at "call ref") => `(tactic| (refine stop_of ?_))
local macro_rules | `(tactic| k_steps) => `(tactic| repeat' (first | (k_unfold; (try dsimp only)) | walk1 | (dsimp only; walk1) | (leave1; (try dsimp only)) | fail "no step"))
local macro_rules | `(tactic| walk_at "exec While Compare cons nil") => `(tactic| ((fail_if_success (rename Go => hgo)); refine stop_of ?_))
set_option hygiene false in
local macro_rules | `(tactic| walk_at "FRAME") => `(tactic| (intro y; (try dsimp only); (repeat (refine fr_step (fun hy => (by first | exact absurd hy (by assumption) | (subst hy; first | rfl | kernel_rfl))) fun hy => ?_)); (repeat (first | refine fr_last (by assumption) ?_ | refine fr_rstep (fun hy => (by subst hy; first | rfl | kernel_rfl)) fun hy => ?_)); (try rfl)))
set_option hygiene false in
local macro_rules | `(tactic| walk_at "PUR") => `(tactic| (k_dflt (refine' pur_intro (by omega) ?k6 ?k7 ?k9 ?kB ?_ ?c2 ?c3 ?c4 ?c5; (case k6 => k_is); (case k7 => k_is); (case k9 => (intro _ Xb; first | exact BindsTo.of_eq rfl | exact binds_K (by k_in) rfl (by k_is) rfl rfl rfl)); (case c5 => decide); (case kB => exact locs rfl); (case c2 => exact rfl); (case c3 => exact rfl); (case c4 => exact rfl)); k_whole; intro dp un gd env outer base mean mg mb s E L' h₁ tk hd hu hP F1 N2 B X T; (try dsimp only); (try k_fold)))
set_option hygiene false in
local macro_rules | `(tactic| walk_at "ROOM") => `(tactic| (first | omega | (simp only [Around.deeper, topE]; omega)))
set_option hygiene false in
local macro_rules | `(tactic| walk_at "SITE") => `(tactic| (refine ⟨rfl, by assumption, _, _, _, _, _, _, _, rfl, rfl, rfl, B, X, T⟩))
local macro_rules | `(tactic| walk_at "binaryOp Add ref ref") => `(tactic| (refine stop_of ?_))
set_option hygiene false in
local macro_rules | `(tactic| walk_at "SUB") => `(tactic| (intro p hp; (try simp only [List.mem_cons, List.mem_append, List.not_mem_nil, or_false, false_or] at hp ⊢); (repeat' (refine Or.elim hp (fun hp => ?_) fun hp => ?_)); (all_goals (simp only [hp, true_or, or_true]))))
local macro_rules | `(tactic| walk_at "binaryOp Add str str") => `(tactic| ((refine PyProof.Rows.add_str (hsz := ?hsz) ?_); (case hsz => (first | (simp only [Str.length_append, sizeLine_eq]; omega) | size_fits)); intro _ _))
local macro_rules | `(tactic| k_all) => `(tactic| (refine allLt_ne (by assumption) ?_; omega))
local macro_rules | `(tactic| k_all) => `(tactic| with_reducible assumption)
set_option hygiene false in
local macro_rules | `(tactic| walk_at "PURC") => `(tactic| (k_dflt (refine' pur_introC (by omega) ?k6 ?k7 ?k9 ?kB ?kD ?_ ?c2 ?c3 ?c4; (case k6 => k_is); (case k7 => k_is); (case k9 => (intro _ Xb; first | exact BindsTo.of_eq rfl | exact binds_K (by k_in) rfl (by k_is) rfl rfl rfl)); (case kB => exact rfl); (case kD => decide +kernel); (case c2 => exact rfl); (case c3 => exact rfl); (case c4 => exact rfl)); k_whole; intro dp un gd env outer base mean mg mb s E L' h₁ tk cells hd hu hP F1 N2 Y2 B X T; k_cells Y2; (try simp only [List.cons_append, List.nil_append] at N2); (try dsimp only); (try k_fold)))
local macro_rules | `(tactic| walk_at "compareOp Is str ref") => `(tactic| (refine wpAny_is_other (by rfl) (by intro x; cases x) ?_))
local macro_rules | `(tactic| walk_at "exec For Name Name cons nil") => `(tactic| (refine stop_of ?_))
set_option hygiene false in
local macro_rules | `(tactic| walk_at "OWN") => `(tactic| (k_dflt (refine' own_intro (by omega) ?k6 ?k7 ?k9 ?kB ?_ ?c2 ?c3 ?c4 ?c5; (case k6 => k_is); (case k7 => k_is); (case k9 => (intro _ Xb; first | exact BindsTo.of_eq rfl | exact binds_K (by k_in) rfl (by k_is) rfl rfl rfl)); (case c5 => decide); (case kB => exact locs rfl); (case c2 => exact rfl); (case c3 => exact rfl); (case c4 => exact rfl)); k_whole; intro dp un gd env outer base mean mg mb s E L' h₁ tk hd hu hP F1 N2 B X T; (try dsimp only); (try k_fold)))
set_option hygiene false in
local macro_rules | `(tactic| walk_at "CLS") => `(tactic| (k_dflt (refine' cls_intro (by omega) ?kh ?ki ?kj ?km ?k6 ?k7 ?k9 ?kB ?_ ?c2 ?c3 ?c4 ?c5; (case km => walk_at "MONO"); (case kh => k_is); (case ki => k_is); (case kj => k_is); (case k6 => k_is); (case k7 => k_is); (case k9 => (intro _ _ Xb; first | exact BindsTo.of_eq rfl | exact binds_K (by k_in) rfl (by k_is) rfl rfl rfl)); (case c5 => decide); (case kB => (intro _; exact locs rfl)); (case c2 => exact rfl); (case c3 => exact rfl); (case c4 => exact rfl)); k_whole; intro dp un gd env outer base mean mg mb s E L' h₁ tk xI dI hd hu lI F1 N2 B X T; (try dsimp only); (try k_fold)))
set_option hygiene false in
local macro_rules | `(tactic| walk_at "ENTER") => `(tactic| (refine' code_def ?k1 ?k2 ?k3 ?k4 ?k5 ?kA ?kF ?kK ?k6 ?k7 ?k8 ?k9 ?kB ?_ ?c2 ?c3 ?c4 ?c5; (case kA => exact rfl); (case kF => exact rfl); (case kK => exact rfl); (case k1 => k_asm); (case k2 => k_asm); (case k3 => k_asm); (case k4 => k_asm); (case k5 => k_asm); (case k6 => k_is); (case k7 => k_is); (case k8 => (simp only [depth_under_make, depth_under_kw, depth_in1, depth_deeper, depth_caller, topE]; omega)); (case k9 => first | exact BindsTo.of_eq rfl | exact binds_K (by k_in) rfl (by k_is) rfl rfl rfl | fail "k_enter: no rule for these arguments"); (case c5 => decide); (case kB => exact locs rfl); (case c2 => exact rfl); (case c3 => exact rfl); (case c4 => exact rfl); k_whole; intro g' L2' h' FG' F' N' B' X' T'; (try dsimp only); (try k_lift B'); (try k_fold)))
local macro_rules | `(tactic| walk_at "call builtin:len") => `(tactic| ((with_reducible show wpAny _ _ (call _ [Value.ref _]) _ _ _); refine stop_of ?_))
local macro_rules | `(tactic| walk_at "subscriptTail Name UnaryOp ref int") => `(tactic| (refine stop_of ?_))
theorem getLastL {prog : Program} {w : World} {A : Around} {E : Value → Shared → Prop} {s : Shared} {D : Addr} {value slice : PySem.Expr} {qs : List Value} {x : Value} {t : Tok} {Q : Value → Shared → Prop} (hl : s.heap.IsList D (qs ++ [x]).toArray) (h : Q x s)
    (hs : subscripted slice false (.ref D) (.int (-1) t) = operate [.ref D, .int (-1) t] (getItem (.ref D) (.int (-1) t)) := by with_unfolding_all rfl) :
    wpAny (model prog w) A (subscriptTail value slice (.ref D) (.int (-1) t)) Q E s :=
  kde_neg (vs := qs ++ [x]) hl (by decide) (by decide) (seqIndex_last qs x) (by simp) h hs
local macro_rules | `(tactic| walk_at "exec For Name Subscript cons nil") => `(tactic| (refine stop_of ?_))
theorem strsOf_split : ∀ {vs : List Value} {ps : List (List Nat)}, StrsOf vs ps → ps ≠ [] → (∃ p t, vs = [.str ⟨p.toArray⟩ t] ∧ ps = [p]) ∨
    ∃ p t vm pm q u, vs = .str ⟨p.toArray⟩ t :: (vm ++ [.str ⟨q.toArray⟩ u]) ∧ ps = p :: (pm ++ [q]) ∧ StrsOf vm pm := by
  intro vs ps h hne
  match vs, ps, h with
  | [v], [p], ⟨⟨t, e⟩, _⟩ => exact .inl ⟨p, t, by rw [e], rfl⟩
  | v :: v2 :: vs, p :: p2 :: ps, ⟨⟨t, e⟩, h2⟩ =>
    rcases strsOf_split h2 (by simp) with ⟨q, u, e1, e2⟩ | ⟨q, u, vm, pm, q', u', e1, e2, hm⟩
    · exact .inr ⟨p, t, [], [], q, u, by rw [e, e1]; rfl, by rw [e2]; rfl, trivial⟩
    · exact .inr ⟨p, t, .str ⟨q.toArray⟩ u :: vm, q :: pm, q', u', by rw [e, e1]; rfl, by rw [e2]; rfl, ⟨⟨_, rfl⟩, hm⟩⟩
  | [], p :: ps, h => exact h.elim
  | v :: vs, [], h => exact h.elim
theorem str_beq (x : Str) (l : List Nat) : (x == (⟨l.toArray⟩ : Str)) = (x.cps.toList == l) := by
  by_cases h : x.cps.toList = l
  · rw [beq_iff_eq.mpr h, beq_iff_eq.mpr (str_ext h)]
  · rw [beq_eq_false_iff_ne.mpr h, beq_eq_false_iff_ne.mpr fun e => h (by rw [e])]
local macro_rules | `(tactic| walk_at "call builtin:str.find") => `(tactic| (refine call_find4 ?_; (try dsimp only)))
/-- the frame of _law_said in the loop -/
abbrev frS (r : Addr) (g : Str) (t : Tok) (pl : Int) (tpl : Tok) (la : Int) (tla : Tok) (up uf : Option Value) : Str → Option Value := fun (v : Str) => if v = "found" then uf else if v = "piece" then up else if v = "place" then some (.int pl tpl) else
  if v = "last" then some (.int la tla) else if v = "text" then some (.str g t) else if v = "pieces" then some (.ref r) else none
set_option maxRecDepth 100000 in
set_option maxHeartbeats 800000 in
theorem t_said (w : World) : PySem.Challenge.rw_ik0097_01 = PySem.Challenge.rw_ik0097_01 → Kx = Kx → ∀ (r : Addr) (vs : List Value) (ps : List (List Nat)) (g : Str) (t : Tok), g.length ≤ 16 → ps ≠ [] → ps.length ≤ 10 → StrsOf vs ps → (∀ p ∈ ps, p.length ≤ 16) →
    Pur w 362 [.ref r, .str g t] 3 30 (fun h => h.IsList r vs.toArray) (fun h v h' => v = .bool (saidM g.cps.toList ps)) := by
  k_fill
  intro _ _ r vs ps g t hg hne hlen hS hpl
  walk_at "PUR"
  have F2 := fr_as F1 (m' := fun y => List.lookup y [("text", .str g t), ("pieces", .ref r)]) (by intro y; kernel_rfl)
  clear F1
  simp only [lk_cons, lk_nil] at F2
  have hvl : vs.length ≤ 10 := by rw [hS.length]; exact hlen
  rcases strsOf_split hS hne with ⟨p, tp, rfl, rfl⟩ | ⟨p, tp, vm, pm, q, tq, rfl, rfl, hSm⟩
  · k_steps
    refine Stop.mk ?_
    refine kun_lenL (k := 1) (by is_list) (by simp) (by decide) ?_
    k_steps
    refine PEnd.intro F2 ?_
    dsimp only
    rw [str_beq]; rfl
  · have hr2 : s.heap.IsList r ((Value.str ⟨p.toArray⟩ tp :: vm) ++ [Value.str ⟨q.toArray⟩ tq]).toArray := by simpa using hP
    have hp16 : (Str.mk p.toArray).length ≤ 16 := by simpa [Str.length] using hpl p (by simp)
    have hq16 : (Str.mk q.toArray).length ≤ 16 := by simpa [Str.length] using hpl q (by simp)
    k_steps
    refine Stop.mk ?_
    refine kun_lenL (k := ((pm.length + 2 : Nat) : Int)) (by is_list) (by have := hSm.length; simp only [List.size_toArray, List.length_cons, List.length_append, List.length_nil]; omega) (by have := hSm.length; simp at hvl; omega) ?_
    dsimp only
    k_steps
    · exfalso
      (rename _ = (1 : Int) => h1)
      omega
    refine Stop.mk ?_
    (rename Fr s.heap L' _ _ => F4)
    refine getLastL (hr2.at fun o e => F4.keep _ _ e) ?_
    have ep : (Str.mk p.toArray).length = p.length := by simp [Str.length]
    have eq' : (Str.mk q.toArray).length = q.length := by simp [Str.length]
    have eg : g.cps.toList.length = g.length := by simp [Str.length]
    k_steps
    · (rename Fr s.heap L' _ _ => F5)
      (rename (_ != _) = true => hc)
      refine PEnd.intro F5 ?_
      show Value.bool false = _
      rw [saidM_two, if_pos]
      left
      rw [ep, slice_to] at hc
      intro e
      rw [e] at hc
      simp at hc
    · (rename Fr s.heap L' _ _ => F5)
      (rename (_ : Int) < (_ : Int) => hc)
      refine PEnd.intro F5 ?_
      show Value.bool false = _
      rw [saidM_two, if_pos]
      right; left
      rw [ep, eq'] at hc
      omega
    · refine Stop.mk ?_
      (rename Fr s.heap L' _ _ => F6)
      (rename (_ != _) = false => hc1)
      (rename ¬ (_ : Int) < (_ : Int) => hc2)
      have hc1' : g.cps.toList.take p.length = p := by
        rw [ep, slice_to] at hc1
        have := congrArg (fun x : Str => x.cps.toList) (by simpa using hc1 : (⟨(List.take p.length g.cps.toList).toArray⟩ : Str) = ⟨p.toArray⟩)
        simpa using this
      have hc2' : ¬ g.cps.toList.length < p.length + q.length := by rw [ep, eq'] at hc2; omega
      rw [eq', show ((g.length : Int) - (q.length : Int)) = ((g.cps.toList.length - q.length : Nat) : Int) by omega, slice_from]
      refine getLastL (hr2.at fun o e => F6.keep _ _ e) ?_
      clear hc1
      (try dsimp only)
      k_steps
      · (rename Fr s.heap L' _ _ => F5)
        (rename (_ != _) = true => hc)
        refine PEnd.intro F5 ?_
        show Value.bool false = _
        rw [saidM_two, if_pos]
        right; right
        intro e
        rw [e] at hc
        simp at hc
      · (rename (_ != _) = false => hc3)
        have hc3' : g.cps.toList.drop (g.cps.toList.length - q.length) = q := by
          have := congrArg (fun x : Str => x.cps.toList) (by simpa using hc3 : (⟨(List.drop (g.cps.toList.length - q.length) g.cps.toList).toArray⟩ : Str) = ⟨q.toArray⟩)
          simpa using this
        refine Stop.mk ?_
        (try dsimp only)
        refine For_invV s.heap rfl rfl ?_
        k_steps
        refine Stop.mk ?_
        (rename Fr s.heap L' _ _ => F7)
        (rename News s.heap L' _ _ => N7)
        dsimp only at N7 F7 ⊢
        rw [slicePick_mid] at N7
        rw [ep, eq', show ((g.length : Int) - (q.length : Int)) = ((g.cps.toList.length - q.length : Nat) : Int) by omega] at F7
        have F8 := fr_as F7 (m' := frS r g t (p.length : Nat) _ ((g.cps.toList.length - q.length : Nat) : Int) _ none none) (by walk_at "FRAME")
        clear F7
        generalize hla : g.cps.toList.length - q.length = la at F8
        refine iter_ownV (fun i m' nw => nw = [] ∧ ∃ (pl : Nat) (tpl tla : Tok) (up uf : Option Value), m' = frS r g t (pl : Nat) tpl (la : Nat) tla up uf ∧ saidLoop g.cps.toList la (pm.take i) p.length = some pl) rfl F8 N7 rfl ⟨_, rfl⟩ (fun q hq => nomatch hq) ⟨rfl, _, _, _, _, _, rfl, by simp [saidLoop]⟩ ?turn ?done
        case done =>
          rintro m₁ news₁ h tk ⟨rfl, pl, tpl, tla, up, uf, rfl, hpl'⟩ F9 N9
          rw [hSm.length, List.take_length] at hpl'
          k_steps
          (rename Fr s.heap L' _ _ => F11)
          refine PEnd.intro F11 ?_
          show Value.bool true = _
          rw [saidM_two, if_neg (by rintro (h | h | h); exact h hc1'; exact hc2' h; exact h hc3'), hla, hpl']
          rfl
        case turn =>
          rintro i v m₁ news₁ h tk own hv hoff ⟨rfl, pl, tpl, tla, up, uf, rfl, hpl'⟩ F9 N9
          obtain ⟨x, tx, hx, rfl⟩ := hSm.get hv
          rw [List.nil_append] at N9
          have hx16 : (Str.mk x.toArray).length ≤ 16 := by
            have : x ∈ pm := List.mem_of_getElem? hx
            simpa [Str.length] using hpl x (by simp [this])
          have hple : pl ≤ la := saidLoop_le _ _ _ _ _ (by omega) hpl'
          have hstep : saidLoop g.cps.toList la (pm.take (i + 1)) p.length = saidLoop g.cps.toList la [x] pl := by
            rw [take_succ_of hx, saidLoop_append, hpl']; rfl
          have hfi := find4_is g (Str.mk x.toArray) pl la (by rw [← eg]; omega)
          have exl : (Str.mk x.toArray).length = x.length := by simp [Str.length]
          dsimp only
          k_steps
          · (rename (_ : Int) < 0 => hneg)
            (rename Fr s.heap L' _ _ => F11)
            refine PEnd.intro F11 ?_
            rw [saidM_two, if_neg (by rintro (h | h | h); exact h hc1'; exact hc2' h; exact h hc3'), hla]
            rw [hfi] at hneg
            dsimp only at hneg
            cases hf : findM g.cps.toList x pl la with
            | some k => rw [hf] at hneg; exact absurd hneg (Int.not_lt.mpr (Int.natCast_nonneg k))
            | none =>
              have hil : i < pm.length := by
                rcases Nat.lt_or_ge i pm.length with h | h
                · exact h
                · rw [List.getElem?_eq_none h] at hx; cases hx
              have e : pm = pm.take i ++ (x :: pm.drop (i + 1)) := by
                rw [show x = pm[i] from by rw [List.getElem?_eq_getElem hil] at hx; exact (Option.some.inj hx).symm, ← List.drop_eq_getElem_cons hil, List.take_append_drop]
              rw [e, saidLoop_append, hpl']
              simp [saidLoop, hf]
          · (rename ¬ (_ : Int) < 0 => hpos)
            (rename Fr s.heap L' _ _ => F11)
            (rename News s.heap L' _ _ => N11)
            rw [hfi] at hpos F11
            dsimp only at hpos F11
            cases hf : findM g.cps.toList x pl la with
            | none => rw [hf] at hpos; exact absurd (by decide) hpos
            | some k =>
              rw [hf] at F11
              dsimp only at F11
              rw [exl, ← Int.natCast_add] at F11
              have F12 := fr_as F11 (m' := frS r g t ((k + x.length : Nat) : Int) _ (la : Nat) tla (some (.str ⟨x.toArray⟩ tx)) (some (.int k _))) (by walk_at "FRAME")
              refine inv_end0 F12 N11 ⟨rfl, k + x.length, _, _, _, _, rfl, ?_⟩
              rw [hstep]
              simp [saidLoop, hf]
end Mine
end
section
open PySem PySem.W PySem.Calls PySem.Spec PyProof.Rows PyProof.Rows.LCg PyProof.Rows.LCt
set_option Elab.async false
set_option maxRecDepth 100000
namespace Mine
/-- the end of a turn of a comprehension: the ledger stands, and g -/
def CEnd (h₀ : Heap) (L : Addr) (m : Str → Option Value) (s₁ : Shared) (led : List (Addr × Obj)) (g : Prop) (s₂ : Shared) : Prop :=
  ∃ h' tk, s₂ = { s₁ with heap := h', toks := tk } ∧ Fr h₀ L h' m ∧ News h₀ L h' led ∧ g
theorem CEnd.intro {h₀ h' : Heap} {L : Addr} {m : Str → Option Value} {s₁ : Shared} {led : List (Addr × Obj)} {g : Prop} {tk : Nat} (F : Fr h₀ L h' m) (N : News h₀ L h' led) (hg : g) : CEnd h₀ L m s₁ led g { s₁ with heap := h', toks := tk } := ⟨h', tk, rfl, F, N, hg⟩
theorem off1_mem {D : Addr} : ∀ {l : List (Addr × Obj)}, Off1 D l → ∀ p ∈ l, p.1 ≠ D
  | [], _, _, h => nomatch h
  | _ :: _, x, p, h => by
    rcases List.mem_cons.mp h with rfl | h
    · exact x.1
    · exact off1_mem x.2 p h
section
variable {prog : Program} {w : World} {A : Around} {E : Value → Shared → Prop} {s : Shared} {h₀ : Heap} {L : Addr} {m : Str → Option Value} {env : Env}
theorem restT {ct elt : Expr} {x : Str} {scope : Scope} {cl : List (Str × Addr)} {S : List (Addr × Obj) → Prop} {P : Nat → Value → Prop} {Fin : List Value → List (Addr × Obj) → Prop} {n : Nat} {news : List (Addr × Obj)} (G : Nat → List Value → Prop) (hS : S news)
    (step : ∀ i ys v I oI C oC D m₂ h tk (E' : Value → Shared → Prop), i < n → G i ys → P i v → NsObj oC m₂ → m₂ x = some v → Fr h₀ L h m → News h₀ L h ((I, oI) :: (C, oC) :: (D, lst ys) :: news) → Off3 I C D news → (I ≠ C ∧ I ≠ D ∧ C ≠ D) →
      wpAny (model prog w) A (isTrue ct (compEnvC scope cl C env) (eval ct (compEnvC scope cl C env))) (fun ok s' => if ok = true then
        wpAny (model prog w) A (eval elt (compEnvC scope cl C env)) (fun y s₂ => Stop (CEnd h₀ L m { s with heap := h, toks := tk } ((I, oI) :: (C, oC) :: (D, lst ys) :: news) (G (i + 1) (ys ++ [y])) s₂)) E' s'
        else Stop (CEnd h₀ L m { s with heap := h, toks := tk } ((I, oI) :: (C, oC) :: (D, lst ys) :: news) (G (i + 1) ys) s')) E' { s with heap := h, toks := tk })
    (fin : ∀ ys, G n ys → Fin ys news) : ∀ k i ys, i + k = n → G i ys → CompRestT prog w A h₀ L m env ct elt x scope cl s S P Fin k i ys news
  | 0, i, ys, e, g => CompRestT.zero (fin ys (by rw [← e]; exact g))
  | k + 1, i, ys, e, g => by
    refine CompRestT.succ fun v I oI C oC D m₂ h tk E' hP hC hx F N off ne => ?_
    refine wpAny_mono (step i ys v I oI C oC D m₂ h tk E' (by omega) g hP hC hx F N off ne) (fun ok s' p => ?_) fun _ _ e => e
    cases ok with
    | true =>
      simp only [if_true] at p ⊢
      refine wpAny_mono p (fun y s₂ q => ?_) fun _ _ e => e
      obtain ⟨h', tk', rfl, F', N', g'⟩ := q.h
      exact CompEnd.intro F' N' news (fun p hp => hp) off hS (restT G hS step fin k (i + 1) _ (by omega) g')
    | false =>
      simp only [Bool.false_eq_true, if_false] at p ⊢
      obtain ⟨h', tk', rfl, F', N', g'⟩ := p.h
      exact CompEnd.intro F' N' news (fun p hp => hp) off hS (restT G hS step fin k (i + 1) _ (by omega) g')
theorem restU {elt : Expr} {x : Str} {scope : Scope} {cl : List (Str × Addr)} {S : List (Addr × Obj) → Prop} {P : Nat → Value → Prop} {Fin : List Value → List (Addr × Obj) → Prop} {n : Nat} {news : List (Addr × Obj)} (G : Nat → List Value → Prop) (hS : S news)
    (step : ∀ i ys v I oI C oC D m₂ h tk (E' : Value → Shared → Prop), i < n → G i ys → P i v → NsObj oC m₂ → m₂ x = some v → Fr h₀ L h m → News h₀ L h ((I, oI) :: (C, oC) :: (D, lst ys) :: news) → Off3 I C D news → (I ≠ C ∧ I ≠ D ∧ C ≠ D) →
        wpAny (model prog w) A (eval elt (compEnvC scope cl C env)) (fun y s₂ => Stop (CEnd h₀ L m { s with heap := h, toks := tk } ((I, oI) :: (C, oC) :: (D, lst ys) :: news) (G (i + 1) (ys ++ [y])) s₂)) E' { s with heap := h, toks := tk })
    (fin : ∀ ys, G n ys → Fin ys news) : ∀ k i ys, i + k = n → G i ys → CompRest prog w A h₀ L m env elt x scope cl s S P Fin k i ys news
  | 0, i, ys, e, g => CompRest.zero (fin ys (by rw [← e]; exact g))
  | k + 1, i, ys, e, g => by
    refine CompRest.succ fun v I oI C oC D m₂ h tk E' hP hC hx F N off ne => ?_
    refine wpAny_mono (step i ys v I oI C oC D m₂ h tk E' (by omega) g hP hC hx F N off ne) (fun y s₂ q => ?_) fun _ _ e => e
    obtain ⟨h', tk', rfl, F', N', g'⟩ := q.h
    exact CompEnd.intro F' N' news (fun p hp => hp) off hS (restU G hS step fin k (i + 1) _ (by omega) g')
/-- over a list: with a test -/
theorem compL_T {ct elt : Expr} {x : Str} {scope : Scope} {cl : List (Str × Addr)} {Fin : Shared → List Value → List (Addr × Obj) → Prop} {ax : Addr} {vs : List Value} {news : List (Addr × Obj)} (G : Nat → List Value → Prop)
    (hh : A.handled = none) (F : Fr h₀ L s.heap m) (N : News h₀ L s.heap news) (hS : SrcAt h₀ ax vs.toArray news) (hsz : vs.length ≤ sizeLine) (g0 : G 0 [])
    (step : ∀ i ys v I oI C oC D m₂ h tk (E' : Value → Shared → Prop), G i ys → vs[i]? = some v → NsObj oC m₂ → m₂ x = some v → Fr h₀ L h m → News h₀ L h ((I, oI) :: (C, oC) :: (D, lst ys) :: news) → Off3 I C D news → (I ≠ C ∧ I ≠ D ∧ C ≠ D) →
      wpAny (model prog w) A (isTrue ct (compEnvC scope cl C env) (eval ct (compEnvC scope cl C env))) (fun ok s' => if ok = true then
        wpAny (model prog w) A (eval elt (compEnvC scope cl C env)) (fun y s₂ => Stop (CEnd h₀ L m { s with heap := h, toks := tk } ((I, oI) :: (C, oC) :: (D, lst ys) :: news) (G (i + 1) (ys ++ [y])) s₂)) E' s'
        else Stop (CEnd h₀ L m { s with heap := h, toks := tk } ((I, oI) :: (C, oC) :: (D, lst ys) :: news) (G (i + 1) ys) s')) E' { s with heap := h, toks := tk })
    (fin : ∀ g ys, G vs.length ys → Fin { s with heap := g } ys news) : CompSrcT prog w A h₀ L m env ct elt x scope cl Fin (.ref ax) s := by
  refine .inl ⟨ax, vs.toArray, news, rfl, hh, F, N, hS, by simpa using hsz, ?_⟩
  rintro s₂ ⟨g, rfl⟩
  have e : vs.toArray.size = vs.length := by simp
  rw [e]
  exact restT (s := { s with heap := g }) (n := vs.length) (S := SrcAt h₀ ax vs.toArray) (P := fun i v => vs.toArray[i]? = some v) G hS (fun i ys v I oI C oC D m₂ h tk E' hi hg hv => step i ys v I oI C oC D m₂ h tk E' hg (by simpa using hv)) (fin g) vs.length 0 [] (Nat.zero_add _) g0
/-- over a range from nought: with a test -/
theorem compR_T {ct elt : Expr} {x : Str} {scope : Scope} {cl : List (Str × Addr)} {Fin : Shared → List Value → List (Addr × Obj) → Prop} {r : Addr} {t u v₀ : Tok} {n : Nat} {news : List (Addr × Obj)} (G : Nat → List Value → Prop)
    (hh : A.handled = none) (F : Fr h₀ L s.heap m) (N : News h₀ L s.heap news) (hr : IsRange s.heap r 0 (n : Int) 1 t u v₀) (hsz : n ≤ 1000) (g0 : G 0 [])
    (step : ∀ i ys v I oI C oC D m₂ h tk (E' : Value → Shared → Prop), i < n → G i ys → (∃ t, v = .int (i : Int) t) → NsObj oC m₂ → m₂ x = some v → Fr h₀ L h m → News h₀ L h ((I, oI) :: (C, oC) :: (D, lst ys) :: news) → Off3 I C D news → (I ≠ C ∧ I ≠ D ∧ C ≠ D) →
      wpAny (model prog w) A (isTrue ct (compEnvC scope cl C env) (eval ct (compEnvC scope cl C env))) (fun ok s' => if ok = true then
        wpAny (model prog w) A (eval elt (compEnvC scope cl C env)) (fun y s₂ => Stop (CEnd h₀ L m { s with heap := h, toks := tk } ((I, oI) :: (C, oC) :: (D, lst ys) :: news) (G (i + 1) (ys ++ [y])) s₂)) E' s'
        else Stop (CEnd h₀ L m { s with heap := h, toks := tk } ((I, oI) :: (C, oC) :: (D, lst ys) :: news) (G (i + 1) ys) s')) E' { s with heap := h, toks := tk })
    (fin : ∀ g ys, G n ys → Fin { s with heap := g } ys news) : CompSrcT prog w A h₀ L m env ct elt x scope cl Fin (.ref r) s := by
  refine .inr ⟨r, 0, (n : Int), t, u, v₀, n, news, rfl, hh, F, N, hr, small_one (by decide) (by decide) (by omega) (by omega), by rw [rangeSize_nat]; simp, by rw [sizeLine_eq]; omega, ?_⟩
  rintro s₂ ⟨g, rfl⟩
  exact restT (s := { s with heap := g }) (n := n) (S := fun _ => True) (P := fun i v => ∃ t, v = .int (0 + (i : Int)) t) G trivial (fun i ys v I oI C oC D m₂ h tk E' hi hg hv => step i ys v I oI C oC D m₂ h tk E' hi hg (by obtain ⟨t, rfl⟩ := hv; exact ⟨t, by rw [Int.zero_add]⟩)) (fin g) n 0 [] (Nat.zero_add _) g0
/-- over a list: without a test -/
theorem compL_U {elt : Expr} {x : Str} {scope : Scope} {cl : List (Str × Addr)} {Fin : Shared → List Value → List (Addr × Obj) → Prop} {ax : Addr} {vs : List Value} {news : List (Addr × Obj)} (G : Nat → List Value → Prop)
    (hh : A.handled = none) (F : Fr h₀ L s.heap m) (N : News h₀ L s.heap news) (hS : SrcAt h₀ ax vs.toArray news) (hsz : vs.length ≤ sizeLine) (g0 : G 0 [])
    (step : ∀ i ys v I oI C oC D m₂ h tk (E' : Value → Shared → Prop), G i ys → vs[i]? = some v → NsObj oC m₂ → m₂ x = some v → Fr h₀ L h m → News h₀ L h ((I, oI) :: (C, oC) :: (D, lst ys) :: news) → Off3 I C D news → (I ≠ C ∧ I ≠ D ∧ C ≠ D) →
        wpAny (model prog w) A (eval elt (compEnvC scope cl C env)) (fun y s₂ => Stop (CEnd h₀ L m { s with heap := h, toks := tk } ((I, oI) :: (C, oC) :: (D, lst ys) :: news) (G (i + 1) (ys ++ [y])) s₂)) E' { s with heap := h, toks := tk })
    (fin : ∀ g ys, G vs.length ys → Fin { s with heap := g } ys news) : CompSrc prog w A h₀ L m env elt x scope cl Fin (.ref ax) s := by
  refine .inl ⟨ax, vs.toArray, news, rfl, hh, F, N, hS, by simpa using hsz, ?_⟩
  rintro s₂ ⟨g, rfl⟩
  have e : vs.toArray.size = vs.length := by simp
  rw [e]
  exact restU (s := { s with heap := g }) (n := vs.length) (S := SrcAt h₀ ax vs.toArray) (P := fun i v => vs.toArray[i]? = some v) G hS (fun i ys v I oI C oC D m₂ h tk E' hi hg hv => step i ys v I oI C oC D m₂ h tk E' hg (by simpa using hv)) (fin g) vs.length 0 [] (Nat.zero_add _) g0
end
theorem filter_range_t {p : Nat → Bool} {j : Nat} (h : p j = true) : (List.range (j + 1)).filter p = (List.range j).filter p ++ [j] := by
  rw [List.range_succ, List.filter_append, List.filter_cons_of_pos h, List.filter_nil]
theorem filter_range_f {p : Nat → Bool} {j : Nat} (h : p j = false) : (List.range (j + 1)).filter p = (List.range j).filter p := by
  rw [List.range_succ, List.filter_append, List.filter_cons_of_neg (by simp [h]), List.filter_nil, List.append_nil]
theorem filter_take_t {p : Nat → Bool} {l : List Nat} {j e : Nat} (hj : l[j]? = some e) (h : p e = true) : (l.take (j + 1)).filter p = (l.take j).filter p ++ [e] := by
  rw [List.take_add_one, hj, List.filter_append]
  simp [h]
theorem filter_take_f {p : Nat → Bool} {l : List Nat} {j e : Nat} (hj : l[j]? = some e) (h : p e = false) : (l.take (j + 1)).filter p = (l.take j).filter p := by
  rw [List.take_add_one, hj, List.filter_append]
  simp [h]
end Mine
end
section
open PySem PySem.W PySem.Calls PySem.Spec PyProof PyProof.Rows
set_option Elab.async false
namespace Mine
set_option linter.unusedVariables false
local macro_rules | `(tactic| walk_at "pyIter ref") => `(tactic| (refine stop_of ?_))
local macro_rules | `(tactic| walk_at "call ref") => `(tactic| (refine stop_of ?_))
local macro_rules | `(tactic| k_steps) => `(tactic| repeat' (first | (k_unfold; (try dsimp only)) | walk1 | (dsimp only; walk1) | (leave1; (try dsimp only)) | fail "no step"))
local macro_rules | `(tactic| walk_at "exec While Compare cons nil") => `(tactic| ((fail_if_success (rename Go => hgo)); refine stop_of ?_))
set_option hygiene false in
local macro_rules | `(tactic| walk_at "FRAME") => `(tactic| (intro y; (try dsimp only); (repeat (refine fr_step (fun hy => (by first | exact absurd hy (by assumption) | (subst hy; first | rfl | kernel_rfl))) fun hy => ?_)); (repeat (first | refine fr_last (by assumption) ?_ | refine fr_rstep (fun hy => (by subst hy; first | rfl | kernel_rfl)) fun hy => ?_)); (try rfl)))
set_option hygiene false in
local macro_rules | `(tactic| walk_at "PUR") => `(tactic| (k_dflt (refine' pur_intro (by omega) ?k6 ?k7 ?k9 ?kB ?_ ?c2 ?c3 ?c4 ?c5; (case k6 => k_is); (case k7 => k_is); (case k9 => (intro _ Xb; first | exact BindsTo.of_eq rfl | exact binds_K (by k_in) rfl (by k_is) rfl rfl rfl)); (case c5 => decide); (case kB => exact locs rfl); (case c2 => exact rfl); (case c3 => exact rfl); (case c4 => exact rfl)); k_whole; intro dp un gd env outer base mean mg mb s E L' h₁ tk hd hu hP F1 N2 B X T; (try dsimp only); (try k_fold)))
set_option hygiene false in
local macro_rules | `(tactic| walk_at "ROOM") => `(tactic| (first | omega | (simp only [Around.deeper, topE]; omega)))
set_option hygiene false in
local macro_rules | `(tactic| walk_at "SITE") => `(tactic| (refine ⟨rfl, by assumption, _, _, _, _, _, _, _, rfl, rfl, rfl, B, X, T⟩))
local macro_rules | `(tactic| walk_at "binaryOp Add ref ref") => `(tactic| (refine stop_of ?_))
set_option hygiene false in
local macro_rules | `(tactic| walk_at "SUB") => `(tactic| (intro p hp; (try simp only [List.mem_cons, List.mem_append, List.not_mem_nil, or_false, false_or] at hp ⊢); (repeat' (refine Or.elim hp (fun hp => ?_) fun hp => ?_)); (all_goals (simp only [hp, true_or, or_true]))))
local macro_rules | `(tactic| walk_at "binaryOp Add str str") => `(tactic| ((refine PyProof.Rows.add_str (hsz := ?hsz) ?_); (case hsz => (first | (simp only [Str.length_append, sizeLine_eq]; omega) | size_fits)); intro _ _))
local macro_rules | `(tactic| k_all) => `(tactic| (refine allLt_ne (by assumption) ?_; omega))
local macro_rules | `(tactic| k_all) => `(tactic| with_reducible assumption)
set_option hygiene false in
local macro_rules | `(tactic| walk_at "PURC") => `(tactic| (k_dflt (refine' pur_introC (by omega) ?k6 ?k7 ?k9 ?kB ?kD ?_ ?c2 ?c3 ?c4; (case k6 => k_is); (case k7 => k_is); (case k9 => (intro _ Xb; first | exact BindsTo.of_eq rfl | exact binds_K (by k_in) rfl (by k_is) rfl rfl rfl)); (case kB => exact rfl); (case kD => decide +kernel); (case c2 => exact rfl); (case c3 => exact rfl); (case c4 => exact rfl)); k_whole; intro dp un gd env outer base mean mg mb s E L' h₁ tk cells hd hu hP F1 N2 Y2 B X T; k_cells Y2; (try simp only [List.cons_append, List.nil_append] at N2); (try dsimp only); (try k_fold)))
local macro_rules | `(tactic| walk_at "compareOp Is str ref") => `(tactic| (refine wpAny_is_other (by rfl) (by intro x; cases x) ?_))
local macro_rules | `(tactic| walk_at "exec For Name Name cons nil") => `(tactic| (refine stop_of ?_))
set_option hygiene false in
local macro_rules | `(tactic| walk_at "OWN") => `(tactic| (k_dflt (refine' own_intro (by omega) ?k6 ?k7 ?k9 ?kB ?_ ?c2 ?c3 ?c4 ?c5; (case k6 => k_is); (case k7 => k_is); (case k9 => (intro _ Xb; first | exact BindsTo.of_eq rfl | exact binds_K (by k_in) rfl (by k_is) rfl rfl rfl)); (case c5 => decide); (case kB => exact locs rfl); (case c2 => exact rfl); (case c3 => exact rfl); (case c4 => exact rfl)); k_whole; intro dp un gd env outer base mean mg mb s E L' h₁ tk hd hu hP F1 N2 B X T; (try dsimp only); (try k_fold)))
set_option hygiene false in
local macro_rules | `(tactic| walk_at "CLS") => `(tactic| (k_dflt (refine' cls_intro (by omega) ?kh ?ki ?kj ?km ?k6 ?k7 ?k9 ?kB ?_ ?c2 ?c3 ?c4 ?c5; (case km => walk_at "MONO"); (case kh => k_is); (case ki => k_is); (case kj => k_is); (case k6 => k_is); (case k7 => k_is); (case k9 => (intro _ _ Xb; first | exact BindsTo.of_eq rfl | exact binds_K (by k_in) rfl (by k_is) rfl rfl rfl)); (case c5 => decide); (case kB => (intro _; exact locs rfl)); (case c2 => exact rfl); (case c3 => exact rfl); (case c4 => exact rfl)); k_whole; intro dp un gd env outer base mean mg mb s E L' h₁ tk xI dI hd hu lI F1 N2 B X T; (try dsimp only); (try k_fold)))
set_option hygiene false in
local macro_rules | `(tactic| walk_at "ENTER") => `(tactic| (refine' code_def ?k1 ?k2 ?k3 ?k4 ?k5 ?kA ?kF ?kK ?k6 ?k7 ?k8 ?k9 ?kB ?_ ?c2 ?c3 ?c4 ?c5; (case kA => exact rfl); (case kF => exact rfl); (case kK => exact rfl); (case k1 => k_asm); (case k2 => k_asm); (case k3 => k_asm); (case k4 => k_asm); (case k5 => k_asm); (case k6 => k_is); (case k7 => k_is); (case k8 => (simp only [depth_under_make, depth_under_kw, depth_in1, depth_deeper, depth_caller, topE]; omega)); (case k9 => first | exact BindsTo.of_eq rfl | exact binds_K (by k_in) rfl (by k_is) rfl rfl rfl | fail "k_enter: no rule for these arguments"); (case c5 => decide); (case kB => exact locs rfl); (case c2 => exact rfl); (case c3 => exact rfl); (case c4 => exact rfl); k_whole; intro g' L2' h' FG' F' N' B' X' T'; (try dsimp only); (try k_lift B'); (try k_fold)))
local macro_rules | `(tactic| walk_at "eval ListComp") => `(tactic| (refine stop_of ?_))
local macro_rules | `(tactic| walk_at "exec Assign cons ListComp") => `(tactic| (walk_at "exec Assign"))
/-- the parts of a glob: a sign's text, or the star -/
def PartsOf (st : Addr) : List Value → List (Option (List Nat)) → Prop
  | [], [] => True
  | v :: vs, none :: xs => v = .ref st ∧ PartsOf st vs xs
  | v :: vs, some x :: xs => (∃ t, v = .str ⟨x.toArray⟩ t) ∧ PartsOf st vs xs
  | _, _ => False
theorem PartsOf.get {st : Addr} : ∀ {vs : List Value} {xs : List (Option (List Nat))} (_ : PartsOf st vs xs) {i : Nat} {v : Value}, vs[i]? = some v → ∃ x, xs[i]? = some x ∧ match x with | none => v = .ref st | some y => ∃ t, v = .str ⟨y.toArray⟩ t
  | [], _, _, i, v, e => by simp at e
  | _ :: _, none :: _, ⟨e1, _⟩, 0, v, e => by simp at e; subst e; exact ⟨none, rfl, e1⟩
  | _ :: _, some x :: _, ⟨e1, _⟩, 0, v, e => by simp at e; subst e; exact ⟨some x, rfl, e1⟩
  | _ :: _, none :: _, ⟨_, T⟩, i + 1, v, e => by
    simp only [List.getElem?_cons_succ] at e ⊢
    exact PartsOf.get T e
  | _ :: _, some _ :: _, ⟨_, T⟩, i + 1, v, e => by
    simp only [List.getElem?_cons_succ] at e ⊢
    exact PartsOf.get T e
  | _ :: _, [], T, _, _, _ => T.elim
theorem PartsOf.length {st : Addr} : ∀ {vs : List Value} {xs : List (Option (List Nat))}, PartsOf st vs xs → vs.length = xs.length
  | [], [], _ => rfl
  | _ :: _, none :: _, ⟨_, T⟩ => congrArg (· + 1) (PartsOf.length T)
  | _ :: _, some _ :: _, ⟨_, T⟩ => congrArg (· + 1) (PartsOf.length T)
  | [], _ :: _, T => T.elim
  | _ :: _, [], T => T.elim
/-- a sign as a part says it: a plus sign behind a backslash -/
def escM (c : Nat) : List Nat := if c = 43 then [92, 43] else [c]
/-- a turn of _law_fits -/
def endsStep (text : List Nat) (ends : List Nat) : Option (List Nat) → List Nat
  | none => (List.range (text.length + 1)).filter fun e => !ends.isEmpty && decide (ends.headD 0 ≤ e)
  | some x => (ends.filter fun e => decide (e < text.length) && (x == escM (text.getD e 0))).map (· + 1)
def endsM (text : List Nat) (ps : List (Option (List Nat))) : List Nat := ps.foldl (endsStep text) [0]
def fitsM (text : List Nat) (ps : List (Option (List Nat))) : Bool := (endsM text ps).contains text.length
theorem item_is (g : Str) (e : Nat) : Txt.item g (e : Int) = ⟨#[g.cps.toList.getD e 0]⟩ := by
  unfold Txt.item Txt.charAt seqIndex?
  have h0 : ¬ (e : Int) < 0 := by omega
  simp only [h0, if_false, Int.toNat_natCast]
  by_cases h : e < g.length
  · have h' : e < g.cps.size := h
    simp [h', List.getD_eq_getElem?_getD, Str.length]
  · have h' : ¬ e < g.cps.size := h
    simp [h', List.getD_eq_getElem?_getD, Str.length]
theorem plus_is : Str.ofString "+" = ⟨#[43]⟩ := by decide +kernel
theorem esc_is : Str.ofString "\\+" = ⟨#[92, 43]⟩ := by decide +kernel
theorem esc_plus {g : Str} {e : Nat} {x : List Nat} (q1 : (Txt.item g (e : Int) == Str.ofString "+") = true) (q2 : ((⟨x.toArray⟩ : Str) == Str.ofString "\\+") = true) : x = escM (g.cps.toList.getD e 0) := by
  rw [item_is, plus_is, beq_iff_eq] at q1
  rw [esc_is, beq_iff_eq] at q2
  simp only [Str.mk.injEq, Array.mk.injEq, List.cons.injEq, and_true] at q1
  have q2' : x = [92, 43] := by simpa using congrArg (fun z : Str => z.cps.toList) q2
  rw [q2', q1]; rfl
theorem esc_plus_ne {g : Str} {e : Nat} {x : List Nat} (q1 : (Txt.item g (e : Int) == Str.ofString "+") = true) (q2 : ((⟨x.toArray⟩ : Str) == Str.ofString "\\+") = false) : x ≠ escM (g.cps.toList.getD e 0) := by
  rw [item_is, plus_is, beq_iff_eq] at q1
  rw [esc_is, beq_eq_false_iff_ne] at q2
  simp only [Str.mk.injEq, Array.mk.injEq, List.cons.injEq, and_true] at q1
  rw [q1]
  rintro rfl
  exact q2 rfl
theorem esc_other {g : Str} {e : Nat} {x : List Nat} (q1 : (Txt.item g (e : Int) == Str.ofString "+") = false) (q2 : ((⟨x.toArray⟩ : Str) == Txt.item g (e : Int)) = true) : x = escM (g.cps.toList.getD e 0) := by
  rw [item_is, plus_is, beq_eq_false_iff_ne] at q1
  rw [item_is, beq_iff_eq] at q2
  have q2' : x = [g.cps.toList.getD e 0] := by simpa using congrArg (fun z : Str => z.cps.toList) q2
  unfold escM
  rw [if_neg (fun h => q1 (by rw [h])), q2']
theorem esc_other_ne {g : Str} {e : Nat} {x : List Nat} (q1 : (Txt.item g (e : Int) == Str.ofString "+") = false) (q2 : ((⟨x.toArray⟩ : Str) == Txt.item g (e : Int)) = false) : x ≠ escM (g.cps.toList.getD e 0) := by
  rw [item_is, plus_is, beq_eq_false_iff_ne] at q1
  rw [item_is, beq_eq_false_iff_ne] at q2
  unfold escM
  rw [if_neg (fun h => q1 (by rw [h]))]
  rintro rfl
  exact q2 rfl
theorem endsM_len (text : List Nat) : ∀ ps : List (Option (List Nat)), ∀ E : List Nat, E.length ≤ text.length + 1 → (ps.foldl (endsStep text) E).length ≤ text.length + 1
  | [], E, h => h
  | none :: ps, E, h => by
    refine endsM_len text ps _ ?_
    unfold endsStep
    exact Nat.le_trans (List.length_filter_le _ _) (by simp)
  | some x :: ps, E, h => by
    refine endsM_len text ps _ ?_
    unfold endsStep
    rw [List.length_map]
    exact Nat.le_trans (List.length_filter_le _ _) h
/-- the frame of _law_fits: what is no cell -/
abbrev frF (r st : Addr) : Str → Option Value := fun (v : Str) => if v = "star" then some (.ref st) else if v = "parts" then some (.ref r) else none
set_option maxRecDepth 100000 in
set_option maxHeartbeats 800000 in
theorem t_fits (w : World) : PySem.Challenge.rw_ik0097_01 = PySem.Challenge.rw_ik0097_01 → Kx = Kx → ∀ (r st : Addr) (vs : List Value) (ps : List (Option (List Nat))) (g : Str) (t : Tok), g.length ≤ 16 → ps.length ≤ 30 → PartsOf st vs ps → (∀ p, some p ∈ ps → p.length ≤ 2) →
    Pur w 355 [.ref r, .ref st, .str g t] 3 100 (fun h => h.IsList r vs.toArray) (fun h v h' => v = .bool (fitsM g.cps.toList ps)) := by
  k_fill
  intro _ _ r st vs ps g t hg hlen hS hpl
  walk_at "PURC"
  rename_i o1 o2 o3 d1 d2 d3
  have d1' : o1.data = .cell none := d1.trans (by kernel_rfl)
  have d2' : o2.data = .cell none := d2.trans (by kernel_rfl)
  have d3' : o3.data = .cell (some (.str g t)) := d3.trans (by kernel_rfl)
  clear d1 d2 d3
  have F2 := fr_as F1 (m' := frF r st) (by intro y; kernel_rfl)
  clear F1
  k_steps
  (rename Fr s.heap L' _ _ => F3)
  (rename News s.heap L' _ _ => N3)
  refine Stop.mk ?_
  refine For_invT s.heap ?_ (by intro _; rfl)
  k_steps
  refine Stop.mk ?_
  (rename Obj.data _ = Data.cell (some (Value.ref _)) => d2'')
  (rename _ < _ ∧ _ < _ ∧ _ < _ => l1)
  refine iter_baseT (fun i m' nw => ∃ (o1 o2 o3 : Obj) (D : Addr) (ev : List Value) (k : Nat) (pv : Option Value), m' = frF r st ∧ nw = [(D, W.listOf ev.toArray k), (L' + 1 + 1 + 1, o1), (L' + 1 + 1, o2), (L' + 1, o3)] ∧
    o1.data = .cell pv ∧ o2.data = .cell (some (.ref D)) ∧ o3.data = .cell (some (.str g t)) ∧ IntsAre ev ((endsM g.cps.toList (ps.take i)).map fun n : Nat => (n : Int)) ∧ D ≠ L' + 1 + 1 + 1 ∧ D ≠ L' + 1 + 1 ∧ D ≠ L' + 1) rfl hP F3 N3
    ⟨o1, _, o3, _, _, _, _, rfl, rfl, d1', d2'', d3', .cons _ _ .nil, Nat.ne_of_gt l1.1, Nat.ne_of_gt l1.2.1, Nat.ne_of_gt l1.2.2⟩ ?turn ?done
  case done =>
    clear F3 N3 d1' d2' d2'' d3'
    rintro m₁ news₁ h tk ⟨o1, o2, o3, D, ev, k, pv, rfl, rfl, d1, d2, d3, hE, ne1, ne2, ne3⟩ F4 N4
    rw [hS.length, List.take_length] at hE
    k_steps
    refine PEnd.intro F4 ?_
    have eg : g.cps.toList.length = g.length := by simp [Str.length]
    congr 1
    rw [fitsM, ← eg]
    rw [Bool.eq_iff_iff, List.any_eq_true, List.contains_iff_mem]
    simp only [List.mem_map, beq_iff_eq]
    constructor
    · rintro ⟨_, ⟨a, ha, rfl⟩, e⟩
      have : a = g.cps.toList.length := by omega
      rw [← this]; exact ha
    · intro h
      exact ⟨_, ⟨_, h, rfl⟩, rfl⟩
  case turn =>
    clear F3 N3 d1' d2' d2'' d3'
    rintro i v m₁ news₁ ⟨h, gg, dd, tk, oo⟩ own hv hoff ⟨o1, o2, o3, D, ev, k, pv, rfl, rfl, d1, d2, d3, hE, ne1, ne2, ne3⟩ F4 N4
    dsimp only at F4 N4
    have hf1 : ∀ q ∈ own, q.1 ≠ D := fun q hq => hoff q hq D (by simp)
    have hf2 : ∀ q ∈ own, q.1 ≠ L' + 1 + 1 + 1 := fun q hq => hoff q hq _ (by simp)
    have hf3 : ∀ q ∈ own, q.1 ≠ L' + 1 + 1 := fun q hq => hoff q hq _ (by simp)
    have hf4 : ∀ q ∈ own, q.1 ≠ L' + 1 := fun q hq => hoff q hq _ (by simp)
    clear hoff
    simp only [List.cons_append, List.nil_append] at N4
    obtain ⟨x, hx, hxv⟩ := hS.get hv
    cases x with
    | none =>
      subst hxv
      k_steps
      refine Stop.mk ?_
      (rename Fr s.heap L' _ _ => F5)
      (rename News s.heap L' _ _ => N5)
      (rename Obj.data _ = Data.cell (some (Value.ref st)) => d1')
      refine LCt.ListComp_T (F₀ := F5) (by with_unfolding_all rfl) (by decide) (by rfl) (by decide) (by rfl) ?_
      refine wpAny_stop ?_
      k_steps
      refine Stop.mk ?_
      (rename Fr s.heap L' _ _ => F6)
      (rename News s.heap L' _ _ => N6)
      (rename IsRange _ _ _ _ _ _ _ _ => hr)
      generalize hE0 : endsM g.cps.toList (ps.take i) = E0 at hE
      refine compR_T (n := g.length + 1) (fun i ys => IntsAre ys (((List.range i).filter (fun e => !E0.isEmpty && decide (E0.headD 0 ≤ e))).map (fun n : Nat => (n : Int)))) rfl F6 N6 (by rw [Int.natCast_add]; exact hr) (by omega) .nil ?step ?fin
      case step =>
        clear F4 F6 N4 N6 hr
        rintro j ys v I oI C oC D2 m₂ h2 tk2 E2 hj hys ⟨tj, rfl⟩ hC hm F7 N7 off ⟨n1, n2, n3⟩
        cases E0 with
        | nil =>
          cases hE
          dsimp only
          k_steps
          (rename Fr s.heap L' _ _ => F8)
          (rename News s.heap L' _ _ => N8)
          exact Stop.mk (CEnd.intro F8 (news_tail N8) (by rw [filter_range_f (by rfl)]; exact hys))
        | cons e0 E0 =>
          simp only [List.isEmpty_cons, Bool.not_false, Bool.true_and, List.headD_cons] at hys ⊢
          cases hE with
          | cons _ t0 hE' =>
          dsimp only
          k_steps
          all_goals (rename Fr s.heap L' _ _ => F8)
          all_goals (rename News s.heap L' _ _ => N8)
          all_goals (try dsimp only)
          · (rename decide _ = true => hq)
            simp at hq
          · (rename _ ≤ (j : Int) => hle)
            have hle' : e0 ≤ j := by simpa using hle
            refine Stop.mk (CEnd.intro F8 (news_tail N8) ?_)
            rw [filter_range_t (decide_eq_true hle'), List.map_append]
            exact IntsAre.append hys (.cons _ _ .nil)
          · (rename ¬ _ ≤ (j : Int) => hle)
            have hle' : ¬ e0 ≤ j := by simpa using hle
            refine Stop.mk (CEnd.intro F8 (news_tail N8) ?_)
            rw [filter_range_f (decide_eq_false hle')]
            exact hys
      case fin =>
        intro g1 ys hys
        intro D3 h3 tk3 F7 N7 off
        obtain ⟨u1, u2, u3, u4, u5⟩ := off
        have hf5 := off1_mem u5
        dsimp only at u1 u2 u3 u4
        dsimp only
        k_steps
        (rename Fr s.heap L' _ _ => F8)
        (rename News s.heap L' _ _ => N8)
        (rename Obj.data _ = Data.cell (some (Value.ref D3)) => d2')
        dsimp only
        refine ⟨rfl, InvEndG.intro (nx := [(D3, LCg.lst ys), (L' + 1 + 1 + 1, _), (L' + 1 + 1, _), (L' + 1, o3)]) F8 N8 ⟨_, _, o3, D3, ys, _, _, rfl, rfl, d1', d2', d3, ?_, Ne.symm u2, Ne.symm u3, Ne.symm u4⟩ ?_ (by walk_at "SUB") (by walk_at "SUB")⟩
        · rw [endsM, take_succ_of hx, List.foldl_append, ← endsM, hE0]
          simpa [endsStep, Str.length] using hys
        · intro q hq b hb
          simp only [List.map_cons, List.map_nil, List.mem_cons, List.not_mem_nil, or_false] at hb
          rcases hb with rfl | rfl | rfl | rfl
          · exact hf5 q hq
          · exact hf2 q hq
          · exact hf3 q hq
          · exact hf4 q hq
    | some x =>
      obtain ⟨tx, rfl⟩ := hxv
      k_steps
      refine Stop.mk ?_
      (rename Fr s.heap L' _ _ => F5)
      (rename News s.heap L' _ _ => N5)
      (rename Obj.data _ = Data.cell (some (Value.str ⟨x.toArray⟩ tx)) => d1')
      refine LCt.ListComp_T (F₀ := F5) (by with_unfolding_all rfl) (by decide) (by rfl) (by decide) (by rfl) ?_
      refine wpAny_stop ?_
      k_steps
      refine Stop.mk ?_
      generalize hE0 : endsM g.cps.toList (ps.take i) = E0 at hE
      have hsz : ev.length ≤ sizeLine := by
        have hl : ev.length = E0.length := by simpa using hE.length
        have := endsM_len g.cps.toList (ps.take i) [0] (by simp)
        rw [← endsM, hE0] at this
        have eg : g.cps.toList.length = g.length := by simp [Str.length]
        rw [hl, sizeLine_eq]
        omega
      refine compL_T (vs := ev) (fun i ys => IntsAre ys ((((E0.take i).filter (fun e => decide (e < g.cps.toList.length) && (x == escM (g.cps.toList.getD e 0)))).map (· + 1)).map (fun n : Nat => (n : Int)))) rfl F5 N5 (.inr ⟨_, .head _, rfl, _, rfl⟩) hsz .nil ?step ?fin
      case step =>
        clear F4 F5 N4 N5
        rintro j ys v I oI C oC D2 m₂ h2 tk2 E2 hys hvj hC hm F7 N7 off ⟨n1, n2, n3⟩
        obtain ⟨e0, te, he0, rfl⟩ : ∃ (e0 : Nat) (te : Tok), E0[j]? = some e0 ∧ v = .int (e0 : Int) te := by
          have hj' : j < E0.length := by
            have := hE.length
            rcases Nat.lt_or_ge j ev.length with h | h
            · simpa [this] using h
            · rw [List.getElem?_eq_none h] at hvj; cases hvj
          obtain ⟨te, h'⟩ := hE.get j (E0[j] : Int) (by simp [hj'])
          exact ⟨E0[j], te, by simp [hj'], by rw [hvj] at h'; exact Option.some.inj h'⟩
        have eg : g.cps.toList.length = g.length := by simp [Str.length]
        have hPt : e0 < g.length → x = escM (g.cps.toList.getD e0 0) → (decide (e0 < g.cps.toList.length) && (x == escM (g.cps.toList.getD e0 0))) = true := fun h1 h2 => by
          rw [eg, decide_eq_true h1, h2]; simp
        have hPf : (e0 < g.length → x ≠ escM (g.cps.toList.getD e0 0)) → (decide (e0 < g.cps.toList.length) && (x == escM (g.cps.toList.getD e0 0))) = false := fun h1 => by
          rw [eg]
          by_cases h : e0 < g.length
          · rw [beq_eq_false_iff_ne.mpr (h1 h), Bool.and_false]
          · rw [decide_eq_false h, Bool.false_and]
        dsimp only
        k_steps
        all_goals (rename Fr s.heap L' _ _ => F8)
        all_goals (rename News s.heap L' _ _ => N8)
        all_goals (try dsimp only)
        · (rename (_ == Str.ofString "+") = true => q1)
          (rename (_ == Str.ofString "\\+") = true => q2)
          (rename (_ : Int) < _ => q3)
          refine Stop.mk (CEnd.intro F8 N8 ?_)
          rw [filter_take_t he0 (hPt (by omega) (esc_plus q1 q2)), List.map_append, List.map_append]
          exact IntsAre.append hys (.cons _ _ .nil)
        · (rename (_ == Str.ofString "+") = true => q1)
          (rename (_ == Str.ofString "\\+") = false => q2)
          refine Stop.mk (CEnd.intro F8 N8 ?_)
          rw [filter_take_f he0 (hPf fun _ => esc_plus_ne q1 q2)]
          exact hys
        · (rename (_ == Str.ofString "+") = false => q1)
          (rename (_ == Txt.item _ _) = true => q2)
          (rename (_ : Int) < _ => q3)
          refine Stop.mk (CEnd.intro F8 N8 ?_)
          rw [filter_take_t he0 (hPt (by omega) (esc_other q1 q2)), List.map_append, List.map_append]
          exact IntsAre.append hys (.cons _ _ .nil)
        · (rename (_ == Str.ofString "+") = false => q1)
          (rename (_ == Txt.item _ _) = false => q2)
          refine Stop.mk (CEnd.intro F8 N8 ?_)
          rw [filter_take_f he0 (hPf fun _ => esc_other_ne q1 q2)]
          exact hys
        · (rename ¬ (_ : Int) < _ => q3)
          refine Stop.mk (CEnd.intro F8 N8 ?_)
          rw [filter_take_f he0 (hPf fun h => absurd h (by omega))]
          exact hys
      case fin =>
        intro g1 ys hys
        intro D3 h3 tk3 F7 N7 off
        obtain ⟨u1, u2, u3, u4, u5⟩ := off
        have hf5 := off1_mem u5
        dsimp only at u1 u2 u3 u4
        dsimp only
        k_steps
        (rename Fr s.heap L' _ _ => F8)
        (rename News s.heap L' _ _ => N8)
        (rename Obj.data _ = Data.cell (some (Value.ref D3)) => d2')
        dsimp only
        refine ⟨rfl, InvEndG.intro (nx := [(D3, LCg.lst ys), (L' + 1 + 1 + 1, _), (L' + 1 + 1, _), (L' + 1, o3)]) F8 N8 ⟨_, _, o3, D3, ys, _, _, rfl, rfl, d1', d2', d3, ?_, Ne.symm u2, Ne.symm u3, Ne.symm u4⟩ ?_ (by walk_at "SUB") (by walk_at "SUB")⟩
        · rw [endsM, take_succ_of hx, List.foldl_append, ← endsM, hE0]
          have hl : ev.length = E0.length := by simpa using hE.length
          rw [hl, List.take_length] at hys
          exact hys
        · intro q hq b hb
          simp only [List.map_cons, List.map_nil, List.mem_cons, List.not_mem_nil, or_false] at hb
          rcases hb with rfl | rfl | rfl | rfl
          · exact hf5 q hq
          · exact hf2 q hq
          · exact hf3 q hq
          · exact hf4 q hq
end Mine
end
section
open PySem PySem.W PySem.Calls PySem.Spec PyProof PyProof.Rows
set_option Elab.async false
namespace Mine
set_option linter.unusedVariables false
local macro_rules | `(tactic| walk_at "pyIter ref") => `(tactic| (refine stop_of ?_))
local macro_rules | `(tactic| walk_at "call ref") => `(tactic| (refine stop_of ?_))
local macro_rules | `(tactic| k_steps) => `(tactic| repeat' (first | (k_unfold; (try dsimp only)) | walk1 | (dsimp only; walk1) | (leave1; (try dsimp only)) | fail "no step"))
local macro_rules | `(tactic| walk_at "exec While Compare cons nil") => `(tactic| ((fail_if_success (rename Go => hgo)); refine stop_of ?_))
set_option hygiene false in
local macro_rules | `(tactic| walk_at "FRAME") => `(tactic| (intro y; (try dsimp only); (repeat (refine fr_step (fun hy => (by first | exact absurd hy (by assumption) | (subst hy; first | rfl | kernel_rfl))) fun hy => ?_)); (repeat (first | refine fr_last (by assumption) ?_ | refine fr_rstep (fun hy => (by subst hy; first | rfl | kernel_rfl)) fun hy => ?_)); (try rfl)))
set_option hygiene false in
local macro_rules | `(tactic| walk_at "PUR") => `(tactic| (k_dflt (refine' pur_intro (by omega) ?k6 ?k7 ?k9 ?kB ?_ ?c2 ?c3 ?c4 ?c5; (case k6 => k_is); (case k7 => k_is); (case k9 => (intro _ Xb; first | exact BindsTo.of_eq rfl | exact binds_K (by k_in) rfl (by k_is) rfl rfl rfl)); (case c5 => decide); (case kB => exact locs rfl); (case c2 => exact rfl); (case c3 => exact rfl); (case c4 => exact rfl)); k_whole; intro dp un gd env outer base mean mg mb s E L' h₁ tk hd hu hP F1 N2 B X T; (try dsimp only); (try k_fold)))
set_option hygiene false in
local macro_rules | `(tactic| walk_at "ROOM") => `(tactic| (first | omega | (simp only [Around.deeper, topE]; omega)))
set_option hygiene false in
local macro_rules | `(tactic| walk_at "SITE") => `(tactic| (refine ⟨rfl, by assumption, _, _, _, _, _, _, _, rfl, rfl, rfl, B, X, T⟩))
local macro_rules | `(tactic| walk_at "binaryOp Add ref ref") => `(tactic| (refine stop_of ?_))
set_option hygiene false in
local macro_rules | `(tactic| walk_at "SUB") => `(tactic| (intro p hp; (try simp only [List.mem_cons, List.mem_append, List.not_mem_nil, or_false, false_or] at hp ⊢); (repeat' (refine Or.elim hp (fun hp => ?_) fun hp => ?_)); (all_goals (simp only [hp, true_or, or_true]))))
local macro_rules | `(tactic| walk_at "binaryOp Add str str") => `(tactic| ((refine PyProof.Rows.add_str (hsz := ?hsz) ?_); (case hsz => (first | (simp only [Str.length_append, sizeLine_eq]; omega) | size_fits)); intro _ _))
local macro_rules | `(tactic| k_all) => `(tactic| (refine allLt_ne (by assumption) ?_; omega))
local macro_rules | `(tactic| k_all) => `(tactic| with_reducible assumption)
set_option hygiene false in
local macro_rules | `(tactic| walk_at "PURC") => `(tactic| (k_dflt (refine' pur_introC (by omega) ?k6 ?k7 ?k9 ?kB ?kD ?_ ?c2 ?c3 ?c4; (case k6 => k_is); (case k7 => k_is); (case k9 => (intro _ Xb; first | exact BindsTo.of_eq rfl | exact binds_K (by k_in) rfl (by k_is) rfl rfl rfl)); (case kB => exact rfl); (case kD => decide +kernel); (case c2 => exact rfl); (case c3 => exact rfl); (case c4 => exact rfl)); k_whole; intro dp un gd env outer base mean mg mb s E L' h₁ tk cells hd hu hP F1 N2 Y2 B X T; k_cells Y2; (try simp only [List.cons_append, List.nil_append] at N2); (try dsimp only); (try k_fold)))
local macro_rules | `(tactic| walk_at "compareOp Is str ref") => `(tactic| (refine wpAny_is_other (by rfl) (by intro x; cases x) ?_))
local macro_rules | `(tactic| walk_at "exec For Name Name cons nil") => `(tactic| (refine stop_of ?_))
set_option hygiene false in
local macro_rules | `(tactic| walk_at "OWN") => `(tactic| (k_dflt (refine' own_intro (by omega) ?k6 ?k7 ?k9 ?kB ?_ ?c2 ?c3 ?c4 ?c5; (case k6 => k_is); (case k7 => k_is); (case k9 => (intro _ Xb; first | exact BindsTo.of_eq rfl | exact binds_K (by k_in) rfl (by k_is) rfl rfl rfl)); (case c5 => decide); (case kB => exact locs rfl); (case c2 => exact rfl); (case c3 => exact rfl); (case c4 => exact rfl)); k_whole; intro dp un gd env outer base mean mg mb s E L' h₁ tk hd hu hP F1 N2 B X T; (try dsimp only); (try k_fold)))
set_option hygiene false in
local macro_rules | `(tactic| walk_at "CLS") => `(tactic| (k_dflt (refine' cls_intro (by omega) ?kh ?ki ?kj ?km ?k6 ?k7 ?k9 ?kB ?_ ?c2 ?c3 ?c4 ?c5; (case km => walk_at "MONO"); (case kh => k_is); (case ki => k_is); (case kj => k_is); (case k6 => k_is); (case k7 => k_is); (case k9 => (intro _ _ Xb; first | exact BindsTo.of_eq rfl | exact binds_K (by k_in) rfl (by k_is) rfl rfl rfl)); (case c5 => decide); (case kB => (intro _; exact locs rfl)); (case c2 => exact rfl); (case c3 => exact rfl); (case c4 => exact rfl)); k_whole; intro dp un gd env outer base mean mg mb s E L' h₁ tk xI dI hd hu lI F1 N2 B X T; (try dsimp only); (try k_fold)))
set_option hygiene false in
local macro_rules | `(tactic| walk_at "ENTER") => `(tactic| (refine' code_def ?k1 ?k2 ?k3 ?k4 ?k5 ?kA ?kF ?kK ?k6 ?k7 ?k8 ?k9 ?kB ?_ ?c2 ?c3 ?c4 ?c5; (case kA => exact rfl); (case kF => exact rfl); (case kK => exact rfl); (case k1 => k_asm); (case k2 => k_asm); (case k3 => k_asm); (case k4 => k_asm); (case k5 => k_asm); (case k6 => k_is); (case k7 => k_is); (case k8 => (simp only [depth_under_make, depth_under_kw, depth_in1, depth_deeper, depth_caller, topE]; omega)); (case k9 => first | exact BindsTo.of_eq rfl | exact binds_K (by k_in) rfl (by k_is) rfl rfl rfl | fail "k_enter: no rule for these arguments"); (case c5 => decide); (case kB => exact locs rfl); (case c2 => exact rfl); (case c3 => exact rfl); (case c4 => exact rfl); k_whole; intro g' L2' h' FG' F' N' B' X' T'; (try dsimp only); (try k_lift B'); (try k_fold)))
def Octs (ns : List Int) : Prop := ns.length = 6 ∧ ∀ n ∈ ns, 0 ≤ n ∧ n < 256
/-- the frame of _law_changed in the loop -/
abbrev frG (r q D : Addr) (ux : Option Value) : Str → Option Value := fun (v : Str) => if v = "x" then ux else if v = "other" then some (.ref D) else if v = "numbers" then some (.ref q) else if v = "row" then some (.ref r) else none
set_option maxRecDepth 100000 in
set_option maxHeartbeats 800000 in
theorem t_changed (w : World) : PySem.Challenge.rw_ik0097_01 = PySem.Challenge.rw_ik0097_01 → Kx = Kx → ∀ (r q : Addr) (vs us : List Value) (ns ms : List Int), IntsAre vs ns → IntsAre us ms → Octs ns → us.length ≤ 4 →
    Pur w 324 [.ref r, .ref q] 3 100 (fun h => h.IsList r vs.toArray ∧ h.IsList q us.toArray) (fun h v h' => ∃ a vs' ns' k, v = .ref a ∧ NewIn h h' [(a, W.listOf vs'.toArray k)] ∧ IntsAre vs' ns' ∧ Octs ns') := by
  k_fill
  intro _ _ r q vs us ns ms hi hj hoc hul
  walk_at "PUR"
  obtain ⟨hr, hq⟩ := hP
  have F2 := fr_as F1 (m' := fun y => List.lookup y [("numbers", .ref q), ("row", .ref r)]) (by intro y; kernel_rfl)
  clear F1
  simp only [lk_cons, lk_nil] at F2
  have hvl : vs.length = 6 := by rw [hi.length]; exact hoc.1
  k_steps
  refine Stop.mk ?_
  (try dsimp only)
  refine For_invV s.heap rfl rfl ?_
  k_steps
  refine Stop.mk ?_
  (rename Fr s.heap L' _ _ => F3)
  (rename News s.heap L' _ _ => N3)
  (try dsimp only)
  refine iter_baseV (fun _ m' nw => ∃ (D : Addr) (vs' : List Value) (ns' : List Int) (k : Nat) (ux : Option Value), m' = frG r q D ux ∧ nw = [(D, W.listOf vs'.toArray k)] ∧ IntsAre vs' ns' ∧ Octs ns') rfl hq F3 N3 ⟨_, _, _, _, none, funext (by walk_at "FRAME"), rfl, hi, hoc⟩ ?turn ?done
  case done =>
    rintro m₁ news₁ h tk ⟨D, vs', ns', k, ux, rfl, rfl, hi', hoc'⟩ F4 N4
    k_steps
    exact PEnd.intro F4 ⟨_, _, _, _, rfl, newIn_of N4 (fun p hp => hp), hi', hoc'⟩
  case turn =>
    clear F3 N3
    rintro i v m₁ news₁ h tk own hv hoff ⟨D, vs', ns', k, ux, rfl, rfl, hi', hoc'⟩ F4 N4
    have hf1 : ∀ q ∈ own, q.1 ≠ D := fun q hq => hoff q hq D (by simp)
    clear hoff
    rw [List.singleton_append] at N4
    have hm : i < ms.length := by
      rw [← hj.length]
      rcases Nat.lt_or_ge i us.length with h | h
      · exact h
      · rw [List.getElem?_eq_none h] at hv; cases hv
    obtain ⟨tx, hx⟩ := hj.get i ms[i] (by simp [hm])
    rw [hx] at hv
    obtain rfl := Option.some.inj hv
    generalize ms[i] = x at *
    have hl6 : ns'.length = 6 := hoc'.1
    k_steps
    (rename Fr s.heap _ _ _ => F5)
    (rename News s.heap _ _ _ => N5)
    (rename IntsAre (List.set _ _ _) _ => hi5)
    (rename List.length (List.set _ _ _) = _ => hl5)
    refine inv_end1 F5 N5 ⟨D, _, _, k, some (.int x tx), funext (by walk_at "FRAME"), rfl, hi5, ?_⟩ hf1
    refine ⟨hl5.trans hl6, fun n hn => ?_⟩
    rcases List.mem_or_eq_of_mem_set hn with h | h
    · exact hoc'.2 n h
    · have e : (x.fdiv 6).fmod 256 = (x.fdiv 6) % 256 := Int.fmod_eq_emod_of_nonneg _ (by decide)
      rw [h, e]; omega
end Mine
end
section
open PySem PySem.W PySem.Calls PySem.Spec PyProof PyProof.Rows
set_option Elab.async false
namespace Mine
set_option linter.unusedVariables false
local macro_rules | `(tactic| walk_at "pyIter ref") => `(tactic| (refine stop_of ?_))
local macro_rules | `(tactic| walk_at "call ref") => `(tactic| (refine stop_of ?_))
local macro_rules | `(tactic| k_steps) => `(tactic| repeat' (first | (k_unfold; (try dsimp only)) | walk1 | (dsimp only; walk1) | (leave1; (try dsimp only)) | fail "no step"))
local macro_rules | `(tactic| walk_at "exec While Compare cons nil") => `(tactic| ((fail_if_success (rename Go => hgo)); refine stop_of ?_))
set_option hygiene false in
local macro_rules | `(tactic| walk_at "FRAME") => `(tactic| (intro y; (try dsimp only); (repeat (refine fr_step (fun hy => (by first | exact absurd hy (by assumption) | (subst hy; first | rfl | kernel_rfl))) fun hy => ?_)); (repeat (first | refine fr_last (by assumption) ?_ | refine fr_rstep (fun hy => (by subst hy; first | rfl | kernel_rfl)) fun hy => ?_)); (try rfl)))
set_option hygiene false in
local macro_rules | `(tactic| walk_at "PUR") => `(tactic| (k_dflt (refine' pur_intro (by omega) ?k6 ?k7 ?k9 ?kB ?_ ?c2 ?c3 ?c4 ?c5; (case k6 => k_is); (case k7 => k_is); (case k9 => (intro _ Xb; first | exact BindsTo.of_eq rfl | exact binds_K (by k_in) rfl (by k_is) rfl rfl rfl)); (case c5 => decide); (case kB => exact locs rfl); (case c2 => exact rfl); (case c3 => exact rfl); (case c4 => exact rfl)); k_whole; intro dp un gd env outer base mean mg mb s E L' h₁ tk hd hu hP F1 N2 B X T; (try dsimp only); (try k_fold)))
set_option hygiene false in
local macro_rules | `(tactic| walk_at "ROOM") => `(tactic| (first | omega | (simp only [Around.deeper, topE]; omega)))
set_option hygiene false in
local macro_rules | `(tactic| walk_at "SITE") => `(tactic| (refine ⟨rfl, by assumption, _, _, _, _, _, _, _, rfl, rfl, rfl, B, X, T⟩))
local macro_rules | `(tactic| walk_at "binaryOp Add ref ref") => `(tactic| (refine stop_of ?_))
set_option hygiene false in
local macro_rules | `(tactic| walk_at "SUB") => `(tactic| (intro p hp; (try simp only [List.mem_cons, List.mem_append, List.not_mem_nil, or_false, false_or] at hp ⊢); (repeat' (refine Or.elim hp (fun hp => ?_) fun hp => ?_)); (all_goals (simp only [hp, true_or, or_true]))))
local macro_rules | `(tactic| walk_at "binaryOp Add str str") => `(tactic| ((refine PyProof.Rows.add_str (hsz := ?hsz) ?_); (case hsz => (first | (simp only [Str.length_append, sizeLine_eq]; omega) | size_fits)); intro _ _))
local macro_rules | `(tactic| k_all) => `(tactic| (refine allLt_ne (by assumption) ?_; omega))
local macro_rules | `(tactic| k_all) => `(tactic| with_reducible assumption)
set_option hygiene false in
local macro_rules | `(tactic| walk_at "PURC") => `(tactic| (k_dflt (refine' pur_introC (by omega) ?k6 ?k7 ?k9 ?kB ?kD ?_ ?c2 ?c3 ?c4; (case k6 => k_is); (case k7 => k_is); (case k9 => (intro _ Xb; first | exact BindsTo.of_eq rfl | exact binds_K (by k_in) rfl (by k_is) rfl rfl rfl)); (case kB => exact rfl); (case kD => decide +kernel); (case c2 => exact rfl); (case c3 => exact rfl); (case c4 => exact rfl)); k_whole; intro dp un gd env outer base mean mg mb s E L' h₁ tk cells hd hu hP F1 N2 Y2 B X T; k_cells Y2; (try simp only [List.cons_append, List.nil_append] at N2); (try dsimp only); (try k_fold)))
local macro_rules | `(tactic| walk_at "compareOp Is str ref") => `(tactic| (refine wpAny_is_other (by rfl) (by intro x; cases x) ?_))
local macro_rules | `(tactic| walk_at "exec For Name Name cons nil") => `(tactic| (refine stop_of ?_))
set_option hygiene false in
local macro_rules | `(tactic| walk_at "OWN") => `(tactic| (k_dflt (refine' own_intro (by omega) ?k6 ?k7 ?k9 ?kB ?_ ?c2 ?c3 ?c4 ?c5; (case k6 => k_is); (case k7 => k_is); (case k9 => (intro _ Xb; first | exact BindsTo.of_eq rfl | exact binds_K (by k_in) rfl (by k_is) rfl rfl rfl)); (case c5 => decide); (case kB => exact locs rfl); (case c2 => exact rfl); (case c3 => exact rfl); (case c4 => exact rfl)); k_whole; intro dp un gd env outer base mean mg mb s E L' h₁ tk hd hu hP F1 N2 B X T; (try dsimp only); (try k_fold)))
set_option hygiene false in
local macro_rules | `(tactic| walk_at "CLS") => `(tactic| (k_dflt (refine' cls_intro (by omega) ?kh ?ki ?kj ?km ?k6 ?k7 ?k9 ?kB ?_ ?c2 ?c3 ?c4 ?c5; (case km => walk_at "MONO"); (case kh => k_is); (case ki => k_is); (case kj => k_is); (case k6 => k_is); (case k7 => k_is); (case k9 => (intro _ _ Xb; first | exact BindsTo.of_eq rfl | exact binds_K (by k_in) rfl (by k_is) rfl rfl rfl)); (case c5 => decide); (case kB => (intro _; exact locs rfl)); (case c2 => exact rfl); (case c3 => exact rfl); (case c4 => exact rfl)); k_whole; intro dp un gd env outer base mean mg mb s E L' h₁ tk xI dI hd hu lI F1 N2 B X T; (try dsimp only); (try k_fold)))
set_option hygiene false in
local macro_rules | `(tactic| walk_at "ENTER") => `(tactic| (refine' code_def ?k1 ?k2 ?k3 ?k4 ?k5 ?kA ?kF ?kK ?k6 ?k7 ?k8 ?k9 ?kB ?_ ?c2 ?c3 ?c4 ?c5; (case kA => exact rfl); (case kF => exact rfl); (case kK => exact rfl); (case k1 => k_asm); (case k2 => k_asm); (case k3 => k_asm); (case k4 => k_asm); (case k5 => k_asm); (case k6 => k_is); (case k7 => k_is); (case k8 => (simp only [depth_under_make, depth_under_kw, depth_in1, depth_deeper, depth_caller, topE]; omega)); (case k9 => first | exact BindsTo.of_eq rfl | exact binds_K (by k_in) rfl (by k_is) rfl rfl rfl | fail "k_enter: no rule for these arguments"); (case c5 => decide); (case kB => exact locs rfl); (case c2 => exact rfl); (case c3 => exact rfl); (case c4 => exact rfl); k_whole; intro g' L2' h' FG' F' N' B' X' T'; (try dsimp only); (try k_lift B'); (try k_fold)))
local macro_rules | `(tactic| walk_at "eval ListComp") => `(tactic| (refine stop_of ?_))
theorem ints6 {vs : List Value} {ns : List Int} (h : IntsAre vs ns) (hl : ns.length = 6) : ∃ n0 n1 n2 n3 n4 n5 x0 x1 x2 x3 x4 x5, vs = [.int n0 x0, .int n1 x1, .int n2 x2, .int n3 x3, .int n4 x4, .int n5 x5] ∧ ns = [n0, n1, n2, n3, n4, n5] := by
  match vs, ns, h with
  | _, _, .cons n0 x0 (.cons n1 x1 (.cons n2 x2 (.cons n3 x3 (.cons n4 x4 (.cons n5 x5 .nil))))) => exact ⟨n0, n1, n2, n3, n4, n5, x0, x1, x2, x3, x4, x5, rfl, rfl⟩
  | _, _, .nil => simp at hl
  | _, _, .cons _ _ .nil => simp at hl
  | _, _, .cons _ _ (.cons _ _ .nil) => simp at hl
  | _, _, .cons _ _ (.cons _ _ (.cons _ _ .nil)) => simp at hl
  | _, _, .cons _ _ (.cons _ _ (.cons _ _ (.cons _ _ .nil))) => simp at hl
  | _, _, .cons _ _ (.cons _ _ (.cons _ _ (.cons _ _ (.cons _ _ .nil)))) => simp at hl
  | _, _, .cons _ _ (.cons _ _ (.cons _ _ (.cons _ _ (.cons _ _ (.cons _ _ (.cons _ _ r)))))) => simp at hl
/-- the alphabet of base 64 -/
def alphaS : Str := Str.ofString "ABCDEFGHIJKLMNOPQRSTUVWXYZabcdefghijklmnopqrstuvwxyz0123456789+/"
/-- four signs for three octets -/
def code3 (a b c : Int) : List Nat :=
  [alphaS.cps.toList.getD ((a * 65536 + b * 256 + c) / 262144 % 64).toNat 0, alphaS.cps.toList.getD ((a * 65536 + b * 256 + c) / 4096 % 64).toNat 0,
   alphaS.cps.toList.getD ((a * 65536 + b * 256 + c) / 64 % 64).toNat 0, alphaS.cps.toList.getD ((a * 65536 + b * 256 + c) % 64).toNat 0]
def codedM (ns : List Int) : List Nat := code3 (ns.getD 0 0) (ns.getD 1 0) (ns.getD 2 0) ++ code3 (ns.getD 3 0) (ns.getD 4 0) (ns.getD 5 0)
abbrev frK (r : Addr) (co : List Nat) (tc : Tok) (uf : Option Value) : Str → Option Value := fun (v : Str) => if v = "first" then uf else if v = "coded" then some (.str ⟨co.toArray⟩ tc) else if v = "row" then some (.ref r) else none
theorem item_int (g : Str) {k : Int} (h : 0 ≤ k) : Txt.item g k = ⟨[g.cps.toList.getD k.toNat 0].toArray⟩ := by
  obtain ⟨e, rfl⟩ := Int.eq_ofNat_of_zero_le h
  unfold Txt.item Txt.charAt seqIndex?
  have h0 : ¬ (e : Int) < 0 := by omega
  simp only [h0, if_false, Int.toNat_natCast]
  by_cases h : e < g.length
  · have h' : e < g.cps.size := h
    simp [h', List.getD_eq_getElem?_getD, Str.length]
  · have h' : ¬ e < g.cps.size := h
    simp [h', List.getD_eq_getElem?_getD, Str.length]
theorem code_at {a b c M : Int} {k : Int} {e : Nat} (hM : M = a * 65536 + b * 256 + c) (h0 : 0 ≤ M) (hk : (64 : Int) ^ e = k) (hp : 0 ≤ k) :
    Txt.item alphaS ((M.fdiv (64 ^ e)).fmod 64) = ⟨[alphaS.cps.toList.getD ((a * 65536 + b * 256 + c) / k % 64).toNat 0].toArray⟩ := by
  rw [hk, Int.fdiv_eq_ediv_of_nonneg _ hp, Int.fmod_eq_emod_of_nonneg _ (by decide), item_int _ (Int.emod_nonneg _ (by decide)), hM]
theorem strs4 {ys : List Value} {a b c : Int} (h : StrsOf ys ((code3 a b c).map fun z => [z])) : ∃ t0 t1 t2 t3, ys = [.str ⟨[(code3 a b c).getD 0 0].toArray⟩ t0, .str ⟨[(code3 a b c).getD 1 0].toArray⟩ t1, .str ⟨[(code3 a b c).getD 2 0].toArray⟩ t2, .str ⟨[(code3 a b c).getD 3 0].toArray⟩ t3] := by
  match ys, h with
  | [_, _, _, _], ⟨⟨t0, e0⟩, ⟨t1, e1⟩, ⟨t2, e2⟩, ⟨t3, e3⟩, _⟩ => exact ⟨t0, t1, t2, t3, by rw [e0, e1, e2, e3]; rfl⟩
local macro_rules | `(tactic| walk_at "call builtin:str.join") => `(tactic| (refine stop_of ?_))
set_option hygiene false in
local macro_rules | `(tactic| walk_at "CODED4") => `(tactic| (
      k_steps
      refine Stop.mk ?_
      (rename Fr s.heap L' _ _ => F5)
      (rename News s.heap L' _ _ => N5)
      (rename Obj.data _ = Data.cell (some (Value.int _ _)) => d1')
      obtain ⟨M, tM, d1M, hM⟩ : ∃ M tM, _ = Data.cell (some (Value.int M tM)) ∧ M = a * 65536 + b * 256 + c := ⟨_, _, d1', by rw [← ea, ← eb, ← ec]; rfl⟩
      clear d1'
      have hM0 : 0 ≤ M := by omega
      have hM1 : M < 16777216 := by omega
      refine LCg.ListComp_U (F₀ := F5) (by with_unfolding_all rfl) (by decide) (by rfl) (by decide) (by rfl) ?_
      refine wpAny_stop ?_
      k_steps
      refine Stop.mk ?_
      (rename Fr s.heap L' _ _ => F6)
      (rename News s.heap L' _ _ => N6)
      (try dsimp only)
      refine compL_U (vs := [.int 3 _, .int 2 _, .int 1 _, .int 0 _]) (fun i ys => StrsOf ys ((code3 a b c).take i |>.map fun z => [z])) rfl F6 N6 (.inr ⟨_, .head _, rfl, _, rfl⟩) (by rw [sizeLine_eq]; simp) trivial ?step ?fin
      case step =>
        clear F4 F6 N4 N6
        rintro j ys v I oI C oC D2 m₂ h2 tk2 E2 hys hvj hC hm F7 N7 off ⟨n1', n2', n3'⟩
        have hj4 : j = 0 ∨ j = 1 ∨ j = 2 ∨ j = 3 := by
          rcases Nat.lt_or_ge j 4 with h | h
          · omega
          · rw [List.getElem?_eq_none (by simpa using h)] at hvj; cases hvj
        dsimp only
        rcases hj4 with rfl | rfl | rfl | rfl
        all_goals obtain rfl := Option.some.inj hvj
        all_goals k_steps
        all_goals (try dsimp only)
        all_goals refine Stop.mk (CEnd.intro F7 N7 ?_)
        · rw [code_at (k := 262144) (e := Int.toNat 3) hM hM0 rfl (by decide)]
          exact StrsOf.append hys ⟨⟨_, rfl⟩, trivial⟩
        · rw [code_at (k := 4096) (e := Int.toNat 2) hM hM0 rfl (by decide)]
          exact StrsOf.append hys ⟨⟨_, rfl⟩, trivial⟩
        · rw [code_at (k := 64) (e := Int.toNat 1) hM hM0 rfl (by decide)]
          exact StrsOf.append hys ⟨⟨_, rfl⟩, trivial⟩
        · rw [code_at (k := 1) (e := Int.toNat 0) hM hM0 rfl (by decide), Int.ediv_one]
          exact StrsOf.append hys ⟨⟨_, rfl⟩, trivial⟩
      case fin =>
        clear F4 F6 N4 N6
        intro g1 ys hys
        intro D3 h3 tk3 F7 N7 off
        obtain ⟨u1, u2, u3, u4⟩ := off
        have hf5 := off1_mem u4
        dsimp only at u1 u2 u3
        have hys' : StrsOf ys ((code3 a b c).map fun z => [z]) := hys
        have hyl : ys.length = 4 := hys'.length
        dsimp only
        k_steps
        refine Stop.mk ?_
        rw [empty_str]
        refine join_of (sep := []) ⟨_, (N7 _ (.head _)).1, rfl, _, rfl⟩ hys' (by simp [code3]) ?_
        intro t' k'
        have ej : joinL [] ((code3 a b c).map fun z => [z]) = code3 a b c := rfl
        rw [ej]
        have hc4 : (Str.mk (code3 a b c).toArray).length = 4 := rfl
        dsimp only
        k_steps
        (rename Fr s.heap L' _ _ => F8)
        (rename News s.heap L' _ _ => N8)
        (try dsimp only)
        rw [str_app] at F8
        have F9 := fr_as F8 (m' := frK r (co ++ code3 a b c) _ (some (.int _ ti))) (by walk_at "FRAME")
        refine InvEndG.intro (nx := [(L' + 1 + 1, _), (L' + 1, o2)]) F9 N8 ⟨_, o2, _, ta, _, _, by rw [hnx], rfl, d1M, d2⟩ ?_ (by walk_at "SUB") (by walk_at "SUB")
        intro q hq z hz
        simp only [List.map_cons, List.map_nil, List.mem_cons, List.not_mem_nil, or_false] at hz
        rcases hz with rfl | rfl
        · exact hf1 q hq
        · exact hf2 q hq))
set_option maxRecDepth 100000 in
set_option maxHeartbeats 800000 in
theorem t_coded (w : World) : PySem.Challenge.rw_ik0097_01 = PySem.Challenge.rw_ik0097_01 → Kx = Kx → ∀ (r : Addr) (vs : List Value) (ns : List Int), IntsAre vs ns → Octs ns →
    Pur w 329 [.ref r] 3 100 (fun h => h.IsList r vs.toArray) (fun h v h' => ∃ t, v = .str ⟨(codedM ns).toArray⟩ t) := by
  k_fill
  intro _ _ r vs ns hi hoc
  obtain ⟨n0, n1, n2, n3, n4, n5, x0, x1, x2, x3, x4, x5, rfl, rfl⟩ := ints6 hi hoc.1
  clear hi
  have b0 := hoc.2 n0 (by simp); have b1 := hoc.2 n1 (by simp); have b2 := hoc.2 n2 (by simp)
  have b3 := hoc.2 n3 (by simp); have b4 := hoc.2 n4 (by simp); have b5 := hoc.2 n5 (by simp)
  walk_at "PURC"
  rename_i o1 o2 d1 d2
  have d1' : o1.data = .cell none := d1.trans (by kernel_rfl)
  have d2' : o2.data = .cell none := d2.trans (by kernel_rfl)
  clear d1 d2
  have F2 := fr_as F1 (m' := fun (v : Str) => if v = "row" then some (.ref r) else none) (by intro y; kernel_rfl)
  clear F1
  k_steps
  refine Stop.mk ?_
  (rename Fr s.heap L' _ _ => F3)
  (rename News s.heap L' _ _ => N3)
  (rename IsRange _ _ _ _ _ _ _ _ => hr)
  (rename Obj.data _ = Data.cell (some (Value.str _ _)) => d2'')
  (try dsimp only)
  refine iter_rangeC (n := 2) (fun i m' nw => ∃ (o1 o2 : Obj) (tc ta : Tok) (uf pv : Option Value), m' = frK r ([code3 n0 n1 n2, code3 n3 n4 n5].take i).flatten tc uf ∧ nw = [(L' + 1 + 1, o1), (L' + 1, o2)] ∧ o1.data = .cell pv ∧ o2.data = .cell (some (.str alphaS ta))) rfl hr (by decide) (by decide) F3 N3
    ⟨o1, _, _, _, none, none, funext (by walk_at "FRAME"), rfl, d1', d2''⟩ ?turn ?done
  case done =>
    rintro m₁ news₁ h tk ⟨o1, o2, tc, ta, uf, pv, rfl, rfl, d1, d2⟩ F4 N4
    k_steps
    exact PEnd.intro F4 ⟨_, rfl⟩
  case turn =>
    clear F3 N3 hr d1' d2' d2''
    rintro i ti m₁ news₁ h tk own hi hoff ⟨o1, o2, tc, ta, uf, pv, rfl, rfl, d1, d2⟩ F4 N4
    have hf1 : ∀ q ∈ own, q.1 ≠ L' + 1 + 1 := fun q hq => hoff q hq _ (by simp)
    have hf2 : ∀ q ∈ own, q.1 ≠ L' + 1 := fun q hq => hoff q hq _ (by simp)
    clear hoff
    simp only [List.cons_append, List.nil_append] at N4
    have hi' : i = 0 ∨ i = 1 := by omega
    obtain ⟨a, b, c, ea, eb, ec, ha, hb, hc, ecode⟩ : ∃ a b c : Int, [n0, n1, n2, n3, n4, n5].getD (3 * i) 0 = a ∧ [n0, n1, n2, n3, n4, n5].getD (3 * i + 1) 0 = b ∧ [n0, n1, n2, n3, n4, n5].getD (3 * i + 2) 0 = c ∧
        (0 ≤ a ∧ a < 256) ∧ (0 ≤ b ∧ b < 256) ∧ (0 ≤ c ∧ c < 256) ∧ [code3 n0 n1 n2, code3 n3 n4 n5][i]? = some (code3 a b c) := by
      rcases hi' with rfl | rfl
      · exact ⟨n0, n1, n2, rfl, rfl, rfl, b0, b1, b2, rfl⟩
      · exact ⟨n3, n4, n5, rfl, rfl, rfl, b3, b4, b5, rfl⟩
    have hco : (([code3 n0 n1 n2, code3 n3 n4 n5].take i).flatten).length ≤ 4 := by
      rcases hi' with rfl | rfl <;> simp [code3]
    have hnx : ([code3 n0 n1 n2, code3 n3 n4 n5].take (i + 1)).flatten = ([code3 n0 n1 n2, code3 n3 n4 n5].take i).flatten ++ code3 a b c := by
      rw [List.take_add_one, ecode]; simp
    generalize ([code3 n0 n1 n2, code3 n3 n4 n5].take i).flatten = co at F4 hco hnx
    have hcoS : (Str.mk co.toArray).length ≤ 4 := by simpa [Str.length] using hco
    rcases hi' with rfl | rfl
    · rw [show (0 + ((0 : Nat) : Int) * 3) = 0 from rfl] at F4
      walk_at "CODED4"
    · rw [show (0 + ((1 : Nat) : Int) * 3) = 3 from rfl] at F4
      walk_at "CODED4"
end Mine
end
section
open PySem PySem.W PySem.Calls PySem.Spec PyProof PyProof.Rows
set_option Elab.async false
namespace Mine
set_option linter.unusedVariables false
local macro_rules | `(tactic| walk_at "pyIter ref") => `(tactic| (refine stop_of ?_))
local macro_rules | `(tactic| walk_at "call ref") => `(tactic| (refine stop_of ?_))
local macro_rules | `(tactic| k_steps) => `(tactic| repeat' (first | (k_unfold; (try dsimp only)) | walk1 | (dsimp only; walk1) | (leave1; (try dsimp only)) | fail "no step"))
local macro_rules | `(tactic| walk_at "exec While Compare cons nil") => `(tactic| ((fail_if_success (rename Go => hgo)); refine stop_of ?_))
set_option hygiene false in
local macro_rules | `(tactic| walk_at "FRAME") => `(tactic| (intro y; (try dsimp only); (repeat (refine fr_step (fun hy => (by first | exact absurd hy (by assumption) | (subst hy; first | rfl | kernel_rfl))) fun hy => ?_)); (repeat (first | refine fr_last (by assumption) ?_ | refine fr_rstep (fun hy => (by subst hy; first | rfl | kernel_rfl)) fun hy => ?_)); (try rfl)))
set_option hygiene false in
local macro_rules | `(tactic| walk_at "PUR") => `(tactic| (k_dflt (refine' pur_intro (by omega) ?k6 ?k7 ?k9 ?kB ?_ ?c2 ?c3 ?c4 ?c5; (case k6 => k_is); (case k7 => k_is); (case k9 => (intro _ Xb; first | exact BindsTo.of_eq rfl | exact binds_K (by k_in) rfl (by k_is) rfl rfl rfl)); (case c5 => decide); (case kB => exact locs rfl); (case c2 => exact rfl); (case c3 => exact rfl); (case c4 => exact rfl)); k_whole; intro dp un gd env outer base mean mg mb s E L' h₁ tk hd hu hP F1 N2 B X T; (try dsimp only); (try k_fold)))
set_option hygiene false in
local macro_rules | `(tactic| walk_at "ROOM") => `(tactic| (first | omega | (simp only [Around.deeper, topE]; omega)))
set_option hygiene false in
local macro_rules | `(tactic| walk_at "SITE") => `(tactic| (refine ⟨rfl, by assumption, _, _, _, _, _, _, _, rfl, rfl, rfl, B, X, T⟩))
local macro_rules | `(tactic| walk_at "binaryOp Add ref ref") => `(tactic| (refine stop_of ?_))
set_option hygiene false in
local macro_rules | `(tactic| walk_at "SUB") => `(tactic| (intro p hp; (try simp only [List.mem_cons, List.mem_append, List.not_mem_nil, or_false, false_or] at hp ⊢); (repeat' (refine Or.elim hp (fun hp => ?_) fun hp => ?_)); (all_goals (simp only [hp, true_or, or_true]))))
local macro_rules | `(tactic| walk_at "binaryOp Add str str") => `(tactic| ((refine PyProof.Rows.add_str (hsz := ?hsz) ?_); (case hsz => (first | (simp only [Str.length_append, sizeLine_eq]; omega) | size_fits)); intro _ _))
local macro_rules | `(tactic| k_all) => `(tactic| (refine allLt_ne (by assumption) ?_; omega))
local macro_rules | `(tactic| k_all) => `(tactic| with_reducible assumption)
set_option hygiene false in
local macro_rules | `(tactic| walk_at "PURC") => `(tactic| (k_dflt (refine' pur_introC (by omega) ?k6 ?k7 ?k9 ?kB ?kD ?_ ?c2 ?c3 ?c4; (case k6 => k_is); (case k7 => k_is); (case k9 => (intro _ Xb; first | exact BindsTo.of_eq rfl | exact binds_K (by k_in) rfl (by k_is) rfl rfl rfl)); (case kB => exact rfl); (case kD => decide +kernel); (case c2 => exact rfl); (case c3 => exact rfl); (case c4 => exact rfl)); k_whole; intro dp un gd env outer base mean mg mb s E L' h₁ tk cells hd hu hP F1 N2 Y2 B X T; k_cells Y2; (try simp only [List.cons_append, List.nil_append] at N2); (try dsimp only); (try k_fold)))
local macro_rules | `(tactic| walk_at "compareOp Is str ref") => `(tactic| (refine wpAny_is_other (by rfl) (by intro x; cases x) ?_))
local macro_rules | `(tactic| walk_at "exec For Name Name cons nil") => `(tactic| (refine stop_of ?_))
set_option hygiene false in
local macro_rules | `(tactic| walk_at "OWN") => `(tactic| (k_dflt (refine' own_intro (by omega) ?k6 ?k7 ?k9 ?kB ?_ ?c2 ?c3 ?c4 ?c5; (case k6 => k_is); (case k7 => k_is); (case k9 => (intro _ Xb; first | exact BindsTo.of_eq rfl | exact binds_K (by k_in) rfl (by k_is) rfl rfl rfl)); (case c5 => decide); (case kB => exact locs rfl); (case c2 => exact rfl); (case c3 => exact rfl); (case c4 => exact rfl)); k_whole; intro dp un gd env outer base mean mg mb s E L' h₁ tk hd hu hP F1 N2 B X T; (try dsimp only); (try k_fold)))
set_option hygiene false in
local macro_rules | `(tactic| walk_at "CLS") => `(tactic| (k_dflt (refine' cls_intro (by omega) ?kh ?ki ?kj ?km ?k6 ?k7 ?k9 ?kB ?_ ?c2 ?c3 ?c4 ?c5; (case km => walk_at "MONO"); (case kh => k_is); (case ki => k_is); (case kj => k_is); (case k6 => k_is); (case k7 => k_is); (case k9 => (intro _ _ Xb; first | exact BindsTo.of_eq rfl | exact binds_K (by k_in) rfl (by k_is) rfl rfl rfl)); (case c5 => decide); (case kB => (intro _; exact locs rfl)); (case c2 => exact rfl); (case c3 => exact rfl); (case c4 => exact rfl)); k_whole; intro dp un gd env outer base mean mg mb s E L' h₁ tk xI dI hd hu lI F1 N2 B X T; (try dsimp only); (try k_fold)))
set_option hygiene false in
local macro_rules | `(tactic| walk_at "ENTER") => `(tactic| (refine' code_def ?k1 ?k2 ?k3 ?k4 ?k5 ?kA ?kF ?kK ?k6 ?k7 ?k8 ?k9 ?kB ?_ ?c2 ?c3 ?c4 ?c5; (case kA => exact rfl); (case kF => exact rfl); (case kK => exact rfl); (case k1 => k_asm); (case k2 => k_asm); (case k3 => k_asm); (case k4 => k_asm); (case k5 => k_asm); (case k6 => k_is); (case k7 => k_is); (case k8 => (simp only [depth_under_make, depth_under_kw, depth_in1, depth_deeper, depth_caller, topE]; omega)); (case k9 => first | exact BindsTo.of_eq rfl | exact binds_K (by k_in) rfl (by k_is) rfl rfl rfl | fail "k_enter: no rule for these arguments"); (case c5 => decide); (case kB => exact locs rfl); (case c2 => exact rfl); (case c3 => exact rfl); (case c4 => exact rfl); k_whole; intro g' L2' h' FG' F' N' B' X' T'; (try dsimp only); (try k_lift B'); (try k_fold)))
local macro_rules | `(tactic| walk_at "call type:type") => `(tactic| ((with_reducible show wpAny _ _ (call _ [Value.bytes _ _]) _ _ _); refine call_type_of (Tx := "bytes") rfl (by decide +kernel) ?_))
set_option maxRecDepth 100000 in
set_option maxHeartbeats 800000 in
theorem t_buffer (w : World) : PySem.Challenge.rw_ik0097_01 = PySem.Challenge.rw_ik0097_01 → Kx = Kx → ∀ (b : Array UInt8) (t : Tok),
    Pur w 69 [.bytes b t] 2 60 (fun h => True) (fun h v h' => v = .bytes b t) := by
  k_fill
  intro _ _ b t
  walk_at "PUR"
  have F2 := fr_as F1 (m' := fun (y : Str) => List.lookup y [("data", Value.bytes b t)]) (by intro y; kernel_rfl)
  clear F1
  simp only [lk_cons, lk_nil] at F2
  k_steps
  exact PEnd.intro ‹Fr s.heap _ _ _› rfl
set_option maxRecDepth 100000 in
set_option maxHeartbeats 800000 in
theorem t_truth (w : World) : PySem.Challenge.rw_ik0097_01 = PySem.Challenge.rw_ik0097_01 → Kx = Kx →
    Pur w 76 [.bool false] 2 60 (fun h => True) (fun h v h' => v = .bool false) := by
  k_fill
  intro _ _
  walk_at "PUR"
  have F2 := fr_as F1 (m' := fun (y : Str) => List.lookup y [("x", Value.bool false)]) (by intro y; kernel_rfl)
  clear F1
  simp only [lk_cons, lk_nil] at F2
  k_steps
  exact PEnd.intro ‹Fr s.heap _ _ _› rfl
end Mine
end
section
open PySem PySem.W PySem.Calls PySem.Spec PyProof.Rows PyProof.V
set_option Elab.async false
set_option maxRecDepth 100000
namespace Mine
section
variable {prog : Program} {w : World} {A : Around} {E : Value → Shared → Prop} {s : Shared} {env : Env} {h₀ : Heap} {x : Str} {body : List Stmt} {Q : Flow → Shared → Prop}
theorem iter_bytesV {b : Array UInt8} {tb : Tok} {ns : List Int} {m₀ : Str → Option Value} {news : List (Addr × Obj)} (J : Nat → (Str → Option Value) → List (Addr × Obj) → Prop)
    (hk : KBw.bInts b = ns) (hh : A.handled = none) (F : Fr h₀ env.locals s.heap m₀) (N : News h₀ env.locals s.heap news) (hj : J 0 m₀ news)
    (turn : ∀ i c t m₁ news₁ h tk own, ns[i]? = some c → OwnOff own (news₁.map (·.1)) → J i m₁ news₁ → Fr h₀ env.locals h (fun y => if y = x then some (.int c t) else m₁ y) → News h₀ env.locals h (news₁ ++ own) →
      wpAny (model prog w) A (execs body env) (InvPostG h₀ env.locals (J (i + 1)) own { s with heap := h, toks := tk } Q) E { s with heap := h, toks := tk })
    (done : ∀ m₁ news₁ h tk, J ns.length m₁ news₁ → Fr h₀ env.locals h m₁ → News h₀ env.locals h news₁ → Q .next { s with heap := h, toks := tk }) :
    wpAny (model prog w) A (pyIter (.bytes b tb)) (fun it s₂ => LoopAtV prog w A h₀ env x body Q E it s₂) E s := by
  subst hk
  refine KBw.pyIter_bytes ?_
  have W := KBw.walks (prog := prog) (w := w) hh s.heap.objs.size b tb
  refine loopV_core J W (fun hm => ?_) (fun b' hb => ?_) (fun b' hb _ => hb) (fun i h b' st hb => ?_) (fun p hp hI => ?_) ⟨_, Heap.get?_push_size _ rfl, rfl, rfl⟩ (F.push _) (fun p hp => ⟨Heap.get?_push_of_some _ (N p hp).1, (N p hp).2⟩) hj (fun i v m₁ news₁ h tk own hi hP => ?_) (by rw [KBw.ints_length] at done; exact done)
  · exact absurd F.ns.lt ((List.mem_singleton.mp hm) ▸ Nat.lt_irrefl _)
  · rw [List.mem_singleton.mp hb]; exact next_is_new F
  · rw [List.mem_singleton.mp hb]; obtain ⟨o, e, _⟩ := st; exact ⟨o, e⟩
  · exact absurd (Heap.lt_size (N p hp).1) ((List.mem_singleton.mp hI) ▸ Nat.lt_irrefl _)
  · obtain ⟨c, t, hc, rfl⟩ := hP
    exact turn i _ t m₁ news₁ h tk own (KBw.ints_get hc)
end
end Mine
end
section
open PySem PySem.W PySem.Calls PySem.Spec PyProof PyProof.Rows
set_option Elab.async false
namespace Mine
set_option linter.unusedVariables false
local macro_rules | `(tactic| walk_at "pyIter ref") => `(tactic| (refine stop_of ?_))
local macro_rules | `(tactic| walk_at "call ref") => `(tactic| (refine stop_of ?_))
local macro_rules | `(tactic| k_steps) => `(tactic| repeat' (first | (k_unfold; (try dsimp only)) | walk1 | (dsimp only; walk1) | (leave1; (try dsimp only)) | fail "no step"))
local macro_rules | `(tactic| walk_at "exec While Compare cons nil") => `(tactic| ((fail_if_success (rename Go => hgo)); refine stop_of ?_))
set_option hygiene false in
local macro_rules | `(tactic| walk_at "FRAME") => `(tactic| (intro y; (try dsimp only); (repeat (refine fr_step (fun hy => (by first | exact absurd hy (by assumption) | (subst hy; first | rfl | kernel_rfl))) fun hy => ?_)); (repeat (first | refine fr_last (by assumption) ?_ | refine fr_rstep (fun hy => (by subst hy; first | rfl | kernel_rfl)) fun hy => ?_)); (try rfl)))
set_option hygiene false in
local macro_rules | `(tactic| walk_at "PUR") => `(tactic| (k_dflt (refine' pur_intro (by omega) ?k6 ?k7 ?k9 ?kB ?_ ?c2 ?c3 ?c4 ?c5; (case k6 => k_is); (case k7 => k_is); (case k9 => (intro _ Xb; first | exact BindsTo.of_eq rfl | exact binds_K (by k_in) rfl (by k_is) rfl rfl rfl)); (case c5 => decide); (case kB => exact locs rfl); (case c2 => exact rfl); (case c3 => exact rfl); (case c4 => exact rfl)); k_whole; intro dp un gd env outer base mean mg mb s E L' h₁ tk hd hu hP F1 N2 B X T; (try dsimp only); (try k_fold)))
set_option hygiene false in
local macro_rules | `(tactic| walk_at "ROOM") => `(tactic| (first | omega | (simp only [Around.deeper, topE]; omega)))
set_option hygiene false in
local macro_rules | `(tactic| walk_at "SITE") => `(tactic| (refine ⟨rfl, by assumption, _, _, _, _, _, _, _, rfl, rfl, rfl, B, X, T⟩))
local macro_rules | `(tactic| walk_at "binaryOp Add ref ref") => `(tactic| (refine stop_of ?_))
set_option hygiene false in
local macro_rules | `(tactic| walk_at "SUB") => `(tactic| (intro p hp; (try simp only [List.mem_cons, List.mem_append, List.not_mem_nil, or_false, false_or] at hp ⊢); (repeat' (refine Or.elim hp (fun hp => ?_) fun hp => ?_)); (all_goals (simp only [hp, true_or, or_true]))))
local macro_rules | `(tactic| walk_at "binaryOp Add str str") => `(tactic| ((refine PyProof.Rows.add_str (hsz := ?hsz) ?_); (case hsz => (first | (simp only [Str.length_append, sizeLine_eq]; omega) | size_fits)); intro _ _))
local macro_rules | `(tactic| k_all) => `(tactic| (refine allLt_ne (by assumption) ?_; omega))
local macro_rules | `(tactic| k_all) => `(tactic| with_reducible assumption)
set_option hygiene false in
local macro_rules | `(tactic| walk_at "PURC") => `(tactic| (k_dflt (refine' pur_introC (by omega) ?k6 ?k7 ?k9 ?kB ?kD ?_ ?c2 ?c3 ?c4; (case k6 => k_is); (case k7 => k_is); (case k9 => (intro _ Xb; first | exact BindsTo.of_eq rfl | exact binds_K (by k_in) rfl (by k_is) rfl rfl rfl)); (case kB => exact rfl); (case kD => decide +kernel); (case c2 => exact rfl); (case c3 => exact rfl); (case c4 => exact rfl)); k_whole; intro dp un gd env outer base mean mg mb s E L' h₁ tk cells hd hu hP F1 N2 Y2 B X T; k_cells Y2; (try simp only [List.cons_append, List.nil_append] at N2); (try dsimp only); (try k_fold)))
local macro_rules | `(tactic| walk_at "compareOp Is str ref") => `(tactic| (refine wpAny_is_other (by rfl) (by intro x; cases x) ?_))
local macro_rules | `(tactic| walk_at "exec For Name Name cons nil") => `(tactic| (refine stop_of ?_))
set_option hygiene false in
local macro_rules | `(tactic| walk_at "OWN") => `(tactic| (k_dflt (refine' own_intro (by omega) ?k6 ?k7 ?k9 ?kB ?_ ?c2 ?c3 ?c4 ?c5; (case k6 => k_is); (case k7 => k_is); (case k9 => (intro _ Xb; first | exact BindsTo.of_eq rfl | exact binds_K (by k_in) rfl (by k_is) rfl rfl rfl)); (case c5 => decide); (case kB => exact locs rfl); (case c2 => exact rfl); (case c3 => exact rfl); (case c4 => exact rfl)); k_whole; intro dp un gd env outer base mean mg mb s E L' h₁ tk hd hu hP F1 N2 B X T; (try dsimp only); (try k_fold)))
set_option hygiene false in
local macro_rules | `(tactic| walk_at "CLS") => `(tactic| (k_dflt (refine' cls_intro (by omega) ?kh ?ki ?kj ?km ?k6 ?k7 ?k9 ?kB ?_ ?c2 ?c3 ?c4 ?c5; (case km => walk_at "MONO"); (case kh => k_is); (case ki => k_is); (case kj => k_is); (case k6 => k_is); (case k7 => k_is); (case k9 => (intro _ _ Xb; first | exact BindsTo.of_eq rfl | exact binds_K (by k_in) rfl (by k_is) rfl rfl rfl)); (case c5 => decide); (case kB => (intro _; exact locs rfl)); (case c2 => exact rfl); (case c3 => exact rfl); (case c4 => exact rfl)); k_whole; intro dp un gd env outer base mean mg mb s E L' h₁ tk xI dI hd hu lI F1 N2 B X T; (try dsimp only); (try k_fold)))
set_option hygiene false in
local macro_rules | `(tactic| walk_at "ENTER") => `(tactic| (refine' code_def ?k1 ?k2 ?k3 ?k4 ?k5 ?kA ?kF ?kK ?k6 ?k7 ?k8 ?k9 ?kB ?_ ?c2 ?c3 ?c4 ?c5; (case kA => exact rfl); (case kF => exact rfl); (case kK => exact rfl); (case k1 => k_asm); (case k2 => k_asm); (case k3 => k_asm); (case k4 => k_asm); (case k5 => k_asm); (case k6 => k_is); (case k7 => k_is); (case k8 => (simp only [depth_under_make, depth_under_kw, depth_in1, depth_deeper, depth_caller, topE]; omega)); (case k9 => first | exact BindsTo.of_eq rfl | exact binds_K (by k_in) rfl (by k_is) rfl rfl rfl | fail "k_enter: no rule for these arguments"); (case c5 => decide); (case kB => exact locs rfl); (case c2 => exact rfl); (case c3 => exact rfl); (case c4 => exact rfl); k_whole; intro g' L2' h' FG' F' N' B' X' T'; (try dsimp only); (try k_lift B'); (try k_fold)))
local macro_rules | `(tactic| walk_at "subscriptTail Name BinOp bytes int") => `(tactic| (dsimp only; refine stop_of ?_))
local macro_rules | `(tactic| walk_at "call type:bytes ref cons nil") => `(tactic| (dsimp only; refine stop_of ?_))
local macro_rules | `(tactic| walk_at "pyIter bytes") => `(tactic| (refine stop_of ?_))
theorem and_shift (a c : Nat) (h : c < 256) : (a * 256) &&& c = 0 := by
  apply Nat.eq_of_testBit_eq
  intro i
  rw [Nat.testBit_and, Nat.zero_testBit]
  by_cases hi : i < 8
  · have : (a * 256).testBit i = false := by
      rw [show a * 256 = 2 ^ 8 * a by omega, Nat.testBit_two_pow_mul]
      simp; omega
    rw [this, Bool.false_and]
  · have : c.testBit i = false := Nat.testBit_lt_two_pow (Nat.lt_of_lt_of_le h (by
      have : 2 ^ 8 ≤ 2 ^ i := Nat.pow_le_pow_right (by decide) (by omega)
      exact this))
    rw [this, Bool.and_false]
theorem or_shift {a c : Int} (ha : 0 ≤ a) (hc : 0 ≤ c ∧ c < 256) : Builtin.bitOr (a * 2 ^ Int.toNat 8) c = a * 256 + c := by
  rw [show (2 : Int) ^ Int.toNat 8 = 256 from rfl, bitOr_and, bitAnd_pp (by omega) hc.1, show (a * 256).toNat = a.toNat * 256 by omega, and_shift _ _ (by omega)]
  simp
def alphaI : List Int := alphaS.cps.toList.map fun z : Nat => (z : Int)
theorem alphaI_len : alphaI.length = 64 := by decide +kernel
theorem alphaI_get (j : Nat) : alphaI.getD j 0 = ((alphaS.cps.toList.getD j 0 : Nat) : Int) := by
  unfold alphaI
  rw [List.getD_eq_getElem?_getD, List.getD_eq_getElem?_getD, List.getElem?_map]
  cases alphaS.cps.toList[j]? <;> rfl
theorem b64_at {prog : Program} {w : World} {A : Around} {E : Value → Shared → Prop} {s : Shared} {value slice : PySem.Expr} {B : Array UInt8} {t u : Tok} {k : Int} {Q : Value → Shared → Prop} (hB : KBw.bInts B = alphaI) (h0 : 0 ≤ k) (h1 : k < 64)
    (h : ∀ t' tk, Q (.int ((alphaS.cps.toList.getD k.toNat 0 : Nat) : Int) t') { s with toks := tk })
    (hs : subscripted slice false (.bytes B t) (.int k u) = operate [.bytes B t, .int k u] (getItem (.bytes B t) (.int k u)) := by with_unfolding_all rfl)
    (ht : ∀ r, letTemporaryGo value (.bytes B t) r = pure () := by intro _; with_unfolding_all rfl) : wpAny (model prog w) A (subscriptTail value slice (.bytes B t) (.int k u)) Q E s :=
  KBw.item_K hB (by rw [alphaI_len]; decide) h0 (by rw [alphaI_len]; exact h1) (fun t' tk _ _ => by rw [alphaI_get]; exact h t' tk) hs ht
/-- the octets as b2a_base64 keeps them: the last two -/
theorem alphaS_small : ∀ j, alphaS.cps.toList.getD j 0 < 256 := by
  intro j
  rcases Nat.lt_or_ge j 64 with h | h
  · have : ∀ j : Fin 64, alphaS.cps.toList.getD j.val 0 < 256 := by decide +kernel
    exact this ⟨j, h⟩
  · rw [List.getD_eq_getElem?_getD, List.getElem?_eq_none (by rw [show alphaS.cps.toList.length = 64 by decide +kernel]; exact h)]
    decide
def lastTwo (ns : List Int) (i : Nat) : Int := (if 2 ≤ i then ns.getD (i - 2) 0 else 0) * 256 + (if 1 ≤ i then ns.getD (i - 1) 0 else 0)
def outs (ns : List Int) (i : Nat) : List Int := ((codedM ns).take (8 * i / 6)).map fun z : Nat => (z : Int)
theorem codedM_in (ns : List Int) : KBa.In ((codedM ns).map fun z : Nat => (z : Int)) := by
  intro n hn
  obtain ⟨z, hz, rfl⟩ := List.mem_map.1 hn
  simp only [codedM, code3, List.mem_append, List.mem_cons, List.not_mem_nil, or_false] at hz
  have h := alphaS_small
  rcases hz with (rfl | rfl | rfl | rfl) | (rfl | rfl | rfl | rfl) <;> exact ⟨by omega, Int.ofNat_lt.2 (h _)⟩
theorem list6 {ns : List Int} (h : ns.length = 6) : ∃ a b c d e f, ns = [a, b, c, d, e, f] := by
  match ns, h with
  | [a, b, c, d, e, f], _ => exact ⟨a, b, c, d, e, f, rfl⟩
theorem outs_succ {n0 n1 n2 n3 n4 n5 : Int} (b0 : 0 ≤ n0 ∧ n0 < 256) (b1 : 0 ≤ n1 ∧ n1 < 256) (b2 : 0 ≤ n2 ∧ n2 < 256) (b3 : 0 ≤ n3 ∧ n3 < 256) (b4 : 0 ≤ n4 ∧ n4 < 256) (b5 : 0 ≤ n5 ∧ n5 < 256) {i : Nat} (hi : i < 6) :
    outs [n0, n1, n2, n3, n4, n5] (i + 1) = outs [n0, n1, n2, n3, n4, n5] i ++ (if i % 3 = 0 then [((alphaS.cps.toList.getD (lastTwo [n0, n1, n2, n3, n4, n5] (i + 1) / 4 % 64).toNat 0 : Nat) : Int)] else
        if i % 3 = 1 then [((alphaS.cps.toList.getD (lastTwo [n0, n1, n2, n3, n4, n5] (i + 1) / 16 % 64).toNat 0 : Nat) : Int)] else
        [((alphaS.cps.toList.getD (lastTwo [n0, n1, n2, n3, n4, n5] (i + 1) / 64 % 64).toNat 0 : Nat) : Int), ((alphaS.cps.toList.getD (lastTwo [n0, n1, n2, n3, n4, n5] (i + 1) % 64).toNat 0 : Nat) : Int)]) := by
  have c0 : codedM [n0, n1, n2, n3, n4, n5] = code3 n0 n1 n2 ++ code3 n3 n4 n5 := rfl
  unfold outs
  rw [c0]
  unfold code3
  have e1 : (n0 * 65536 + n1 * 256 + n2) / 262144 % 64 = (0 * 256 + n0) / 4 % 64 := by omega
  have e2 : (n0 * 65536 + n1 * 256 + n2) / 4096 % 64 = (n0 * 256 + n1) / 16 % 64 := by omega
  have e3 : (n0 * 65536 + n1 * 256 + n2) / 64 % 64 = (n1 * 256 + n2) / 64 % 64 := by omega
  have e4 : (n0 * 65536 + n1 * 256 + n2) % 64 = (n1 * 256 + n2) % 64 := by omega
  have e5 : (n3 * 65536 + n4 * 256 + n5) / 262144 % 64 = (n2 * 256 + n3) / 4 % 64 := by omega
  have e6 : (n3 * 65536 + n4 * 256 + n5) / 4096 % 64 = (n3 * 256 + n4) / 16 % 64 := by omega
  have e7 : (n3 * 65536 + n4 * 256 + n5) / 64 % 64 = (n4 * 256 + n5) / 64 % 64 := by omega
  have e8 : (n3 * 65536 + n4 * 256 + n5) % 64 = (n4 * 256 + n5) % 64 := by omega
  rw [e1, e2, e3, e4, e5, e6, e7, e8]
  have hi' : i = 0 ∨ i = 1 ∨ i = 2 ∨ i = 3 ∨ i = 4 ∨ i = 5 := by omega
  rcases hi' with rfl | rfl | rfl | rfl | rfl | rfl <;> rfl
abbrev frB (b : Array UInt8) (t : Tok) (D : Addr) (lc lb : Int) (tc tl : Tok) (ub : Option Value) : Str → Option Value := fun (v : Str) => if v = "b" then ub else if v = "leftchar" then some (.int lc tc) else if v = "leftbits" then some (.int lb tl) else if v = "out" then some (.ref D) else
  if v = "newline" then some (.bool false) else if v = "bin_data" then some (.bytes b t) else if v = "data" then some (.bytes b t) else none
set_option maxRecDepth 100000 in
set_option maxHeartbeats 4000000 in
theorem t_b2a (w : World) : PySem.Challenge.rw_ik0097_01 = PySem.Challenge.rw_ik0097_01 → Kx = Kx → ∀ (b : Array UInt8) (t : Tok) (ns : List Int), KBw.bInts b = ns → Octs ns →
    PurK w 84 [.bytes b t] [("newline", .bool false)] 5 200 (fun h => True) (fun h v h' => ∃ b' t', v = .bytes b' t' ∧ KBw.bInts b' = (codedM ns).map fun z : Nat => (z : Int)) := by
  k_fill
  intro _ _ b t ns hb hoc
  walk_at "PUR"
  have F2 := fr_as F1 (m' := fun (y : Str) => List.lookup y [("newline", Value.bool false), ("data", Value.bytes b t)]) (by intro y; kernel_rfl)
  clear F1
  simp only [lk_cons, lk_nil] at F2
  k_steps
  refine Stop.mk ?_
  refine pur_use (t_buffer w rfl rfl _ _) (by walk_at "SITE") (by walk_at "ROOM") (by walk_at "ROOM") trivial ?_
  rintro _ h2 tk2 hs F3 rfl
  dsimp only
  k_steps
  refine Stop.mk ?_
  refine pur_use (t_truth w rfl rfl) (by walk_at "SITE") (by walk_at "ROOM") (by walk_at "ROOM") trivial ?_
  rintro _ h3 tk3 hs3 F5 rfl
  have N5 := News.nil (h₀ := s.heap) (L := L') (h := h3)
  dsimp only
  k_steps
  refine Stop.mk ?_
  (try dsimp only)
  refine For_invV s.heap rfl rfl ?_
  k_steps
  refine Stop.mk ?_
  (rename Fr s.heap L' _ _ => F6)
  (rename News s.heap L' _ _ => N6)
  (try dsimp only)
  refine iter_bytesV (fun i m' nw => ∃ (D : Addr) (ov : List Value) (k : Nat) (tc tl : Tok) (ub : Option Value), m' = frB b t D (lastTwo ns i) ((8 * i % 6 : Nat) : Int) tc tl ub ∧ nw = [(D, W.listOf ov.toArray k)] ∧ IntsAre ov (outs ns i)) hb rfl F6 N6 ⟨_, [], _, _, _, none, funext (by walk_at "FRAME"), rfl, .nil⟩ ?turn ?done
  case done =>
    clear F6 N6
    rintro m₁ news₁ h tk ⟨D, ov, k, tc, tl, ub, rfl, rfl, hov⟩ F7 N7
    rw [hoc.1] at F7 hov
    k_steps
    have hout6 : outs ns 6 = (codedM ns).map fun z : Nat => (z : Int) := by
      unfold outs
      rw [List.take_of_length_le (by rw [show (codedM ns).length = 8 from rfl]; decide)]
    rw [hout6] at hov
    have hin : KBa.In ((codedM ns).map fun z : Nat => (z : Int)) := codedM_in ns
    refine KBa.make_K (vs := ov) F7 N7 rfl ⟨_, N7.get (List.mem_singleton.2 rfl), rfl, _, rfl⟩ hov hin (by rw [List.length_map, show (codedM ns).length = 8 from rfl]; decide) ?_
    intro h9 t9 k9 F9 N9 _
    refine PEnd.intro F9 ⟨_, _, rfl, KBa.ints_make hin⟩
  case turn =>
    clear F6 N6
    rintro i c tb m₁ news₁ h tk own hi hoff ⟨D, ov, k, tc, tl, ub, rfl, rfl, hov⟩ F7 N7
    have hf1 : ∀ q ∈ own, q.1 ≠ D := fun q hq => hoff q hq D (by simp)
    clear hoff
    rw [List.singleton_append] at N7
    have hi6 : i < 6 := by
      rw [← hoc.1]
      rcases Nat.lt_or_ge i ns.length with h | h
      · exact h
      · rw [List.getElem?_eq_none h] at hi; cases hi
    have hns : ∀ j, 0 ≤ ns.getD j 0 ∧ ns.getD j 0 < 256 := by
      intro j
      rcases Nat.lt_or_ge j ns.length with h | h
      · have e : ns.getD j 0 = ns[j] := by simp [h]
        rw [e]; exact hoc.2 _ (List.getElem_mem h)
      · have e : ns.getD j 0 = 0 := by simp [h]
        rw [e]; omega
    have hc : c = ns.getD i 0 := by simp [hi]
    have hc256 : 0 ≤ c ∧ c < 256 := by rw [hc]; exact hns i
    have hl0 : 0 ≤ lastTwo ns i ∧ lastTwo ns i < 65536 := by
      unfold lastTwo
      have a1 := hns (i - 2); have a2 := hns (i - 1)
      split <;> split <;> omega
    have hnx : (lastTwo ns i * 256 + c) % 65536 = lastTwo ns (i + 1) := by
      unfold lastTwo
      have a1 := hns (i - 2); have a2 := hns (i - 1)
      rw [hc]
      rw [if_pos (show 1 ≤ i + 1 by omega), show i + 1 - 1 = i by omega, show i + 1 - 2 = i - 1 by omega]
      have a3 := hns i
      rcases Nat.lt_or_ge i 1 with h | h
      · have : i = 0 := by omega
        subst this
        rw [if_neg (by decide), if_neg (by decide), if_neg (by decide)]
        omega
      · rw [if_pos h, if_pos (show 2 ≤ i + 1 by omega)]
        split <;> omega
    generalize hlt : lastTwo ns i = lt at F7 hl0 hnx
    k_steps
    refine Stop.mk ?_
    (rename Fr s.heap L' _ _ => F8)
    (rename News s.heap L' _ _ => N8)
    (try dsimp only)
    rw [or_shift hl0.1 hc256, bitAnd_m16, hnx] at F8
    have F9 := fr_as F8 (m' := frB b t D (lastTwo ns (i + 1)) (((8 * i % 6 : Nat) : Int) + 8) _ _ (some (.int c tb))) (by walk_at "FRAME")
    clear F8
    have hgo := Go.mk
    have hL0 : 0 ≤ lastTwo ns (i + 1) ∧ lastTwo ns (i + 1) < 65536 := by omega
    have hout : outs ns (i + 1) = outs ns i ++ (if i % 3 = 0 then [((alphaS.cps.toList.getD (lastTwo ns (i + 1) / 4 % 64).toNat 0 : Nat) : Int)] else
        if i % 3 = 1 then [((alphaS.cps.toList.getD (lastTwo ns (i + 1) / 16 % 64).toNat 0 : Nat) : Int)] else
        [((alphaS.cps.toList.getD (lastTwo ns (i + 1) / 64 % 64).toNat 0 : Nat) : Int), ((alphaS.cps.toList.getD (lastTwo ns (i + 1) % 64).toNat 0 : Nat) : Int)]) := by
      obtain ⟨n0, n1, n2, n3, n4, n5, rfl⟩ := list6 hoc.1
      exact outs_succ (hns 0) (hns 1) (hns 2) (hns 3) (hns 4) (hns 5) hi6
    generalize lastTwo ns (i + 1) = lx at F9 hL0 hout
    revert hout
    have hovl : ov.length ≤ 8 := by
      rw [hov.length]
      unfold outs
      rw [List.length_map, List.length_take]
      have : (codedM ns).length = 8 := rfl
      omega
    intro hout
    have h3 : i % 3 = 0 ∨ i % 3 = 1 ∨ i % 3 = 2 := by omega
    rcases h3 with h3 | h3 | h3
    · rw [show ((8 * i % 6 : Nat) : Int) + 8 = 8 by omega] at F9
      rw [if_pos h3] at hout
      k_steps
      refine Stop.mk ?_
      rw [bitAnd_m6, show (lx.fdiv (2 ^ (8 - 6 : Int).toNat)) = lx / 4 from Int.fdiv_eq_ediv_of_nonneg _ (by decide)]
      refine b64_at (by decide +kernel) (by omega) (by omega) ?_
      intro t' tk'
      dsimp only
      k_steps
      (rename Fr s.heap L' _ _ => F10)
      (rename News s.heap L' _ _ => N10)
      rw [show ((8 : Int) - 6) = ((8 * (i + 1) % 6 : Nat) : Int) by omega] at F10
      have F11 := fr_as F10 (m' := frB b t D lx ((8 * (i + 1) % 6 : Nat) : Int) _ _ (some (.int c tb))) (by walk_at "FRAME")
      refine inv_end1 F11 N10 ⟨D, ov ++ [.int ((alphaS.cps.toList.getD (lx / 4 % 64).toNat 0 : Nat) : Int) t'], k + 1, _, _, _, rfl, by simp, ?_⟩ hf1
      rw [hout]
      exact IntsAre.append hov (.cons _ _ .nil)
    · rw [show ((8 * i % 6 : Nat) : Int) + 8 = 10 by omega] at F9
      rw [if_neg (by omega), if_pos h3] at hout
      k_steps
      refine Stop.mk ?_
      rw [bitAnd_m6, show (lx.fdiv (2 ^ (10 - 6 : Int).toNat)) = lx / 16 from Int.fdiv_eq_ediv_of_nonneg _ (by decide)]
      refine b64_at (by decide +kernel) (by omega) (by omega) ?_
      intro t' tk'
      dsimp only
      k_steps
      (rename Fr s.heap L' _ _ => F10)
      (rename News s.heap L' _ _ => N10)
      rw [show ((10 : Int) - 6) = ((8 * (i + 1) % 6 : Nat) : Int) by omega] at F10
      have F11 := fr_as F10 (m' := frB b t D lx ((8 * (i + 1) % 6 : Nat) : Int) _ _ (some (.int c tb))) (by walk_at "FRAME")
      refine inv_end1 F11 N10 ⟨D, ov ++ [.int ((alphaS.cps.toList.getD (lx / 16 % 64).toNat 0 : Nat) : Int) t'], k + 1, _, _, _, rfl, by simp, ?_⟩ hf1
      rw [hout]
      exact IntsAre.append hov (.cons _ _ .nil)
    · rw [show ((8 * i % 6 : Nat) : Int) + 8 = 12 by omega] at F9
      rw [if_neg (by omega), if_neg (by omega)] at hout
      k_steps
      refine Stop.mk ?_
      rw [bitAnd_m6, show (lx.fdiv (2 ^ (12 - 6 : Int).toNat)) = lx / 64 from Int.fdiv_eq_ediv_of_nonneg _ (by decide)]
      refine b64_at (by decide +kernel) (by omega) (by omega) ?_
      intro t' tk'
      dsimp only
      k_steps
      refine Stop.mk ?_
      rw [bitAnd_m6, show (lx.fdiv (2 ^ (12 - 6 - 6 : Int).toNat)) = lx from by rw [Int.fdiv_eq_ediv_of_nonneg _ (by decide)]; simp]
      refine b64_at (by decide +kernel) (by omega) (by omega) ?_
      intro t2' tk2'
      dsimp only
      k_steps
      (rename Fr s.heap L' _ _ => F10)
      (rename News s.heap L' _ _ => N10)
      rw [show ((12 : Int) - 6 - 6) = ((8 * (i + 1) % 6 : Nat) : Int) by omega] at F10
      have F11 := fr_as F10 (m' := frB b t D lx ((8 * (i + 1) % 6 : Nat) : Int) _ _ (some (.int c tb))) (by walk_at "FRAME")
      refine inv_end1 F11 N10 ⟨D, (ov ++ [.int ((alphaS.cps.toList.getD (lx / 64 % 64).toNat 0 : Nat) : Int) t']) ++ [.int ((alphaS.cps.toList.getD (lx % 64).toNat 0 : Nat) : Int) t2'], k + 2, _, _, _, rfl, by simp, ?_⟩ hf1
      rw [hout]
      rw [show ∀ p q : Int, [p, q] = [p] ++ [q] from fun _ _ => rfl, ← List.append_assoc]
      exact IntsAre.append (IntsAre.append hov (.cons _ _ .nil)) (.cons _ _ .nil)
set_option maxRecDepth 100000 in
set_option maxHeartbeats 4000000 in
theorem t_b64 (w : World) : PySem.Challenge.rw_ik0097_01 = PySem.Challenge.rw_ik0097_01 → Kx = Kx → ∀ (b : Array UInt8) (t : Tok) (ns : List Int), KBw.bInts b = ns → Octs ns →
    Pur w 92 [.bytes b t] 7 300 (fun h => True) (fun h v h' => ∃ b' t', v = .bytes b' t' ∧ KBw.bInts b' = (codedM ns).map fun z : Nat => (z : Int)) := by
  k_fill
  intro _ _ b t ns hb hoc
  walk_at "PUR"
  have F2 := fr_as F1 (m' := fun (y : Str) => List.lookup y [("altchars", Value.none), ("s", Value.bytes b t)]) (by intro y; kernel_rfl)
  clear F1
  simp only [lk_cons, lk_nil] at F2
  k_steps
  refine Stop.mk ?_
  refine pur_use (kw := [("newline", Value.bool false)]) (t_b2a w rfl rfl b t ns hb hoc) (by walk_at "SITE") (by walk_at "ROOM") (by walk_at "ROOM") trivial ?_
  rintro _ h2 tk2 hs F3 ⟨b', t', rfl, hb'⟩
  dsimp only
  k_steps
  (rename Fr s.heap L' _ _ => F9)
  exact PEnd.intro F9 ⟨_, _, rfl, hb'⟩
end Mine
end
section
open PySem PySem.W PySem.Calls PySem.Spec PyProof PyProof.Rows
set_option Elab.async false
namespace Mine
/-- the heap without the objects of a ledger -/
abbrev less (h : Heap) (own : List (Addr × Obj)) : Heap := hideAll h (own.map (·.1))
/-- a def that may turn the objects of a ledger, and keeps all else -/
def OwnK (w : World) (f : Addr) (vs : List Value) (own : List (Addr × Obj)) (D U : Nat) (P : Heap → Prop) (R : Heap → Value → Heap → Prop) : Prop :=
  ∀ (A : Around) (h₀ : Heap) (L : Addr) (m : Str → Option Value) (s : Shared) (Q E : Value → Shared → Prop),
    Site w A h₀ L s.heap m → News h₀ L s.heap own → A.depth + D < recursionLimit → A.units + U < cLine → P (less s.heap own) →
    (∀ r h' tk', (less s.heap own).StaysIn h' → R (less s.heap own) r h' → Q r { s with heap := h', toks := tk' }) →
    wpAny (model pw w) A (call (.ref f) vs) Q E s
theorem less_stays {h₀ h h' : Heap} {L : Addr} {m : Str → Option Value} {own : List (Addr × Obj)} (F : Fr h₀ L h m) (N : News h₀ L h own) (hs : (less h own).StaysIn h') : Fr h₀ L h' m := by
  have nm : ∀ b o, h₀.get? b = some o → b ∉ own.map (·.1) := fun b o e q => by
    obtain ⟨p, hp, rfl⟩ := List.mem_map.mp q
    rw [(N p hp).2.2] at e; cases e
  have nL : L ∉ own.map (·.1) := fun q => by
    obtain ⟨p, hp, e⟩ := List.mem_map.mp q
    exact (N p hp).2.1 e
  obtain ⟨oL, es, ep, hL, hLd, hLk, hLf⟩ := F.ns
  exact ⟨⟨oL, es, ep, hs _ _ (hideAll_get _ hL nL), hLd, hLk, hLf⟩, fun b o e => hs _ _ (hideAll_get _ (F.keep b o e) (nm b o e)), F.above⟩
theorem own_use {w : World} {f : Addr} {vs : List Value} {own : List (Addr × Obj)} {D U : Nat} {P : Heap → Prop} {R : Heap → Value → Heap → Prop} {A : Around} {h₀ : Heap} {L : Addr} {m : Str → Option Value} {s : Shared} {Q E : Value → Shared → Prop}
    (C : OwnK w f vs own D U P R) (S : Site w A h₀ L s.heap m) (N : News h₀ L s.heap own) (hd : A.depth + D < recursionLimit) (hu : A.units + U < cLine) (hP : P (less s.heap own))
    (hret : ∀ r h' tk', (less s.heap own).StaysIn h' → Fr h₀ L h' m → R (less s.heap own) r h' → Q r { s with heap := h', toks := tk' }) :
    wpAny (model pw w) A (call (.ref f) vs) Q E s :=
  C A h₀ L m s Q E S N hd hu hP fun r h' tk' hs hr => hret r h' tk' hs (less_stays S.fr N hs) hr
theorem less_news {h₀ h h' : Heap} {L : Addr} {own news : List (Addr × Obj)} (N : News h₀ L h news) (hs : (less h own).StaysIn h') (hne : ∀ p ∈ news, p.1 ∉ own.map (·.1)) : News h₀ L h' news :=
  fun p hp => ⟨hs _ _ (hideAll_get _ (N p hp).1 (hne p hp)), (N p hp).2⟩
/-- what the def has left of its ledger -/
theorem less_newIn {h₀ h h' : Heap} {L : Addr} {m : Str → Option Value} {own led : List (Addr × Obj)} (F : Fr h₀ L h m) (N : News h₀ L h own) (hn : NewIn (less h own) h' led) : News h₀ L h' led := by
  intro p hp
  obtain ⟨h1, h2⟩ := hn p hp
  have nL : L ∉ own.map (·.1) := fun q => by
    obtain ⟨p, hp, e⟩ := List.mem_map.mp q
    exact (N p hp).2.1 e
  obtain ⟨oL, es, ep, hL, _⟩ := F.ns
  refine ⟨h2, fun e => ?_, ?_⟩
  · have := hideAll_get _ hL nL
    rw [← e, h1] at this; cases this
  · cases q : h₀.get? p.1 with
    | none => rfl
    | some o =>
      have nm : p.1 ∉ own.map (·.1) := fun q' => by
        obtain ⟨p', hp', e'⟩ := List.mem_map.mp q'
        rw [← e', (N p' hp').2.2] at q; cases q
      have := hideAll_get (own.map (·.1)) (F.keep _ _ q) nm
      rw [h1] at this; cases this
section
variable {prog : Program} {w : World} {A₀ A : Around} {E : Value → Shared → Prop} {s : Shared} {base h₀ : Heap} {outer : List Env} {L : Addr} {m : Str → Option Value} {env : Env}
theorem code_own {K : Frag} {p : Program} {loose : List Str} {mean : ExcName → Option Value} {mg mb : Str → Option Value} {R : Result → Shared → Prop} {Rp : Heap → Value → Heap → Prop} {name qual : Str} {params : Arguments} {body : List Stmt} {scope : Scope} {dV kV doc pm cdv ct oc : Value} {an od : Option Addr} {osl : Array (Option Value)} {f : Addr} {args : Args} {binds : List (Str × Value)} {own : List (Addr × Obj)}
    (B : Below A₀ base outer h₀) (F : Fr h₀ L s.heap m) (N : News h₀ L s.heap own) (X₀ : K.In h₀) (T : Top p loose mean mg mb h₀) (hA : A.frames = some (env :: outer)) (hf : env.frame = some L) (hke : env.scope.kind = .function)
    (hret : ∀ r h' tk', (less s.heap own).StaysIn h' → Rp (less s.heap own) r h' → R (.ok (.ret r)) { s with heap := h', toks := tk' })
    (ho : K.lookup f = some ⟨oc, od, .func (fnOf name qual params body scope dV kV doc pm an cdv ct), osl⟩) (hcd : codeIn K cdv qual = true) (hroom : A.depth < recursionLimit)
    (hbind : BindsTo s (fnOf name qual params body scope dV kV doc pm an cdv ct) args binds) (hloc : ∀ y ∈ binds, scope.names.lookup y.1 = some .local)
    (h : ∀ L' h₁, Fr (less s.heap own) L' h₁ (fun y => binds.reverse.lookup y) → News (less s.heap own) L' h₁ own → Below A base (env :: outer) (less s.heap own) → K.In (less s.heap own) → Top p loose mean mg mb (less s.heap own) →
      wpAny (model prog w) (A.deeper (envOf qual scope L' f cdv)) (execs body (envOf qual scope L' f cdv))
        (fun fl s' => PEnd Rp { s with heap := less s.heap own } (match fl with | .ret v => v | _ => .none) s')
        (fun e s' => wpAny (model prog w) (A.deeper (envOf qual scope L' f cdv)) (leaving (envOf qual scope L' f cdv) e) (fun _ s'' => R (.error e) s'') (fun e' s'' => R (.error e') s'') s')
        { s with heap := h₁, toks := s.toks + binds.length })
    (hco : scope.isCoroutine = false) (hgen : scope.isGenerator = false) (hk : scope.kind = .function)
    (hcell : ∀ x ∈ scope.names, x.2 ≠ .cell) : codeAny (model prog w) A (.call (.ref f) args) R s := by
  obtain ⟨FG, BG, st, lv⟩ := groundX (R := R) B F N hA hf hke
  refine codeAny_call_def (fd := fnX name qual params body scope [] dV kV doc pm an cdv ct) (body := body) (binds := binds) hroom ((X₀.keeps F.keep) _ _ ho) rfl (T.nolimit.keeps F.keep) (codeRec_of (X₀.keeps F.keep) hcd) rfl hbind hcell hloc (fun h₁ hns hk₁ => ?_) hco hgen hk
  exact wpAny_mono (h s.heap.objs.size h₁ ⟨hns, fun b o e => hk₁ b o (of_hideAll _ e), Nat.le_of_eq (hideAll_size _ _)⟩
    (fun p hp => ⟨hk₁ _ _ (N p hp).1, Nat.ne_of_lt (Heap.lt_size (N p hp).1), hideAll_none _ (List.mem_map_of_mem hp)⟩) BG (X₀.keeps st) (T.keeps st)) (fun fl s' hl => lv _ _ (PEnd.leave (s := { s with heap := less s.heap own }) (fun r h' tk' a b => hret r h' tk' a b) hl)) fun _ _ y => y
end
section
variable {w : World} {D U : Nat} {P : Heap → Prop} {Rp : Heap → Value → Heap → Prop} {name qual : Str} {params : Arguments} {body : List Stmt} {scope : Scope} {dV kV doc pm cdv ct oc : Value} {an od : Option Addr} {osl : Array (Option Value)} {f : Addr} {vs : List Value} {kw : List (Str × Value)} {binds : List (Str × Value)} {own : List (Addr × Obj)}
theorem own_intro (hD : 1 ≤ D)
    (ho : (Kx w.params).lookup f = some ⟨oc, od, .func (fnOf name qual params body scope dV kV doc pm an cdv ct), osl⟩) (hcd : codeIn (Kx w.params) cdv qual = true)
    (hbind : ∀ s : Shared, (Kx w.params).In s.heap → BindsTo s (fnOf name qual params body scope dV kV doc pm an cdv ct) ⟨vs, []⟩ binds) (hloc : ∀ y ∈ binds, scope.names.lookup y.1 = some .local)
    (h : ∀ (dp un : Nat) (gd : Option (List Code)) (env : Env) (outer : List Env) (base : Heap) (mean : ExcName → Option Value) (mg mb : Str → Option Value) (s : Shared) (E : Value → Shared → Prop) (L' : Addr) (h₁ : Heap) (tk : Nat), dp + D < recursionLimit → un + U < cLine → P s.heap →
      Fr s.heap L' h₁ (fun y => binds.reverse.lookup y) → News s.heap L' h₁ own → Below (topE dp un gd env outer) base (env :: outer) s.heap → (Kx w.params).In s.heap → Top vw lsW mean mg mb s.heap →
      wpAny (model pw w) ((topE dp un gd env outer).deeper (envOf qual scope L' f cdv)) (execs body (envOf qual scope L' f cdv))
        (fun fl s' => PEnd Rp s (match fl with | .ret v => v | _ => .none) s')
        (fun e s' => wpAny (model pw w) ((topE dp un gd env outer).deeper (envOf qual scope L' f cdv)) (leaving (envOf qual scope L' f cdv) e) (fun _ s'' => E e s'') (fun e' s'' => E e' s'') s')
        { s with heap := h₁, toks := tk })
    (hco : scope.isCoroutine = false) (hgen : scope.isGenerator = false) (hk : scope.kind = .function)
    (hcell : ∀ x ∈ scope.names, x.2 ≠ .cell) : OwnK w f vs own D U P Rp := by
  intro A h₀ L m s Q E S N hd hu hP hret
  obtain ⟨hh, F, env, outer, A₀, base, mean, mg, mb, hA, hf', hke, B, X, T⟩ := S
  obtain ⟨hd', dp, fr, gd, un⟩ := A
  dsimp only at hh hA hd hu
  subst hh
  subst hA
  refine wpAny_call (code_own (R := fun r s' => match r with | .ok (.ret v) => Q v s' | .ok _ => False | .error e => E e s') (Rp := Rp) B F N X T rfl hf' hke (fun r h' tk' a b => hret r h' tk' a b) ho hcd (show dp < recursionLimit by omega) (hbind s (X.keeps F.keep)) hloc (fun L' h₁ F' N' B' X' T' => ?_) hco hgen hk hcell)
  exact h dp un gd env outer base mean mg mb { s with heap := less s.heap own } E L' h₁ _ hd hu hP F' N' B' X' T'
/-- a class of the text, by its __init__ -/
theorem cls_intro {C fI : Addr} {bindsX : Addr → List (Str × Value)} (hD : 2 ≤ D) (hm : makesIn (Kx w.params) C = true) (hi : findIn (Kx w.params) (.ref C) "__init__" = some (some (.ref fI))) (hfn : isFn (Kx w.params) (.ref fI) = true)
    (hmono : ∀ (h g h' : Heap) (v : Value), h.StaysIn g → Rp g v h' → Rp h v h')
    (ho : (Kx w.params).lookup fI = some ⟨oc, od, .func (fnOf name qual params body scope dV kV doc pm an cdv ct), osl⟩) (hcd : codeIn (Kx w.params) cdv qual = true)
    (hbind : ∀ (x : Addr) (s : Shared), (Kx w.params).In s.heap → BindsTo s (fnOf name qual params body scope dV kV doc pm an cdv ct) ⟨.ref x :: vs, []⟩ (bindsX x)) (hloc : ∀ x, ∀ y ∈ bindsX x, scope.names.lookup y.1 = some .local)
    (h : ∀ (dp un : Nat) (gd : Option (List Code)) (env : Env) (outer : List Env) (base : Heap) (mean : ExcName → Option Value) (mg mb : Str → Option Value) (s : Shared) (E : Value → Shared → Prop) (L' : Addr) (h₁ : Heap) (tk : Nat) (x dx : Addr), dp + D < recursionLimit → un + U < cLine → dx < x →
      Fr s.heap L' h₁ (fun y => (bindsX x).reverse.lookup y) → News s.heap L' h₁ [(x, instObj C dx), (dx, dictOf [] 0)] → Below ((topE dp un gd env outer).under (.builtin "type.__call__" ⟨.ref C :: vs, []⟩)) base (env :: outer) s.heap → (Kx w.params).In s.heap → Top vw lsW mean mg mb s.heap →
      wpAny (model pw w) (((topE dp un gd env outer).under (.builtin "type.__call__" ⟨.ref C :: vs, []⟩)).deeper (envOf qual scope L' fI cdv)) (execs body (envOf qual scope L' fI cdv))
        (fun fl s' => PEnd (fun h v h' => v = .none ∧ Rp h (.ref x) h') s (match fl with | .ret v => v | _ => .none) s')
        (fun e s' => wpAny (model pw w) (((topE dp un gd env outer).under (.builtin "type.__call__" ⟨.ref C :: vs, []⟩)).deeper (envOf qual scope L' fI cdv)) (leaving (envOf qual scope L' fI cdv) e) (fun _ s'' => E e s'') (fun e' s'' => E e' s'') s')
        { s with heap := h₁, toks := tk })
    (hco : scope.isCoroutine = false) (hgen : scope.isGenerator = false) (hk : scope.kind = .function)
    (hcell : ∀ x ∈ scope.names, x.2 ≠ .cell) : Pur w C vs D U (fun _ => True) Rp := by
  intro A h₀ L m s Q E S hd hu _ hret
  obtain ⟨hh, F, env, outer, A₀, base, mean, mg, mb, hA, hf', hke, B, X, T⟩ := S
  obtain ⟨hd', dp, fr, gd, un⟩ := A
  dsimp only at hh hA hd hu
  subst hh
  subst hA
  obtain ⟨hp, gn, dr, tk, os⟩ := s
  have Xs := X.keeps F.keep
  refine wpAny_call (make_core (R := fun r s' => match r with | .ok (.ret v) => Q v s' | .ok _ => False | .error e => E e s') (makes_of Xs hm) (looks_findIn Xs hi) (fun self => bind_fn Xs self (beq_iff_eq.mp hfn)) (.inl rfl) ?_)
  have N0 : News h₀ L hp [] := News.nil
  have N1 := (N0.push F emptyDict).push (F.push _) (instObj C hp.objs.size)
  rw [Heap.size_push] at N1
  have F1 := (F.push emptyDict).push (instObj C hp.objs.size)
  have hst : hp.StaysIn (less ((hp.push emptyDict).push (instObj C hp.objs.size)) [(hp.objs.size + 1, instObj C hp.objs.size), (hp.objs.size, emptyDict)]) := by
    intro b o e
    have hb : b < hp.objs.size := Heap.lt_size e
    refine hideAll_get _ (Heap.get?_push_of_some _ (Heap.get?_push_of_some _ e)) ?_
    show b ∉ [hp.objs.size + 1, hp.objs.size]
    intro hmem
    rcases List.mem_cons.mp hmem with q | q
    · exact absurd q (Nat.ne_of_lt (Nat.lt_succ_of_lt hb))
    · exact absurd (List.mem_singleton.mp q) (Nat.ne_of_lt hb)
  refine code_own (s := ⟨(hp.push emptyDict).push (instObj C hp.objs.size), gn, dr, tk, os⟩) (R := InitBack (hp.objs.size + 1) fun r s' => match r with | .ok (.ret v) => Q v s' | .ok _ => False | .error e => E e s') (Rp := fun h v h' => v = .none ∧ Rp h (.ref (hp.objs.size + 1)) h') B F1 N1 X T rfl hf' hke
    (fun r h' tk' a b => ⟨b.1, hret _ h' tk' (fun y o e => a y o (hst y o e)) (hmono _ _ _ _ hst b.2)⟩) ho hcd (show _ < recursionLimit from ?_) (hbind _ _ (X.keeps F1.keep)) (hloc _) (fun L' h₁ F' N' B' X' T' => ?_) hco hgen hk hcell
  · have : ((topE dp un gd env outer).under (.builtin "type.__call__" ⟨.ref C :: vs, []⟩)).depth ≤ dp + 1 := Nat.le_refl _
    exact Nat.lt_of_le_of_lt this (by omega)
  exact h dp un gd env outer base mean mg mb { heap := less ((hp.push emptyDict).push (instObj C hp.objs.size)) [(hp.objs.size + 1, instObj C hp.objs.size), (hp.objs.size, emptyDict)], gens := gn, drawn := dr, toks := tk, os := os } E L' h₁ _ (hp.objs.size + 1) hp.objs.size hd hu (Nat.lt_succ_self _) F' N' B' X' T'
end
end Mine
end
section
open PySem PySem.W PySem.Calls PySem.Spec PyProof.Rows PyProof.V
set_option Elab.async false
set_option maxRecDepth 100000
namespace Mine
section
variable {prog : Program} {w : World} {A : Around} {E : Value → Shared → Prop} {s : Shared} {env : Env} {h₀ : Heap} {target : Expr} {body : List Stmt} {Q : Flow → Shared → Prop}
theorem turns_core {I : Addr} {fp wr : List Addr} {n : Nat} {P Md : Nat → Value → Heap → Prop} {St : Nat → Heap → Prop} {m₀ : Str → Option Value} {news : List (Addr × Obj)} (J : Nat → (Str → Option Value) → List (Addr × Obj) → Prop)
    (W : KTurns prog w A target I fp wr n P Md St) (hLf : env.locals ∉ fp) (hwr : ∀ b ∈ wr, h₀.get? b = none) (hfw : ∀ b ∈ fp, h₀.get? b = none → b ∈ wr) (hlive : ∀ i h b, St i h → b ∈ wr → ∃ o, h.get? b = some o)
    (hnw : ∀ p ∈ news, p.1 ∉ wr) (hst : St 0 s.heap) (F : Fr h₀ env.locals s.heap m₀) (N : News h₀ env.locals s.heap news) (hj : J 0 m₀ news)
    (turn : ∀ i v m₁ news₁ h tk own, i < n → P i v h → OwnOff own (news₁.map (·.1)) → J i m₁ news₁ → Fr h₀ env.locals h m₁ → News h₀ env.locals h (news₁ ++ own) →
      wpAny (model prog w) A (assign target env v) (fun _ s₃ => wpAny (model prog w) A (execs body env) (InvPostG h₀ env.locals (J (i + 1)) own { s with heap := h, toks := tk } Q) E s₃) E { s with heap := h, toks := tk })
    (done : ∀ m₁ news₁ h tk, J n m₁ news₁ → Fr h₀ env.locals h m₁ → News h₀ env.locals h news₁ → Q .next { s with heap := h, toks := tk }) :
    TurnsAt prog w A h₀ env target body Q E (.ref I) s := by
  refine ⟨I, fp, wr, n, P, Md, St, m₀, news, J, rfl, W, hLf, hwr, hnw, hst, F, N, hj, ?_, ?_⟩
  · intro i v m₁ news₁ h₁ tk₁ own hin hP hJ hoff hown hget hall hst₁ F₁ N₁
    have hw : ∀ b ∈ wr, b ∈ own.map (·.1) := fun b hb => by
      obtain ⟨o, ho⟩ := hlive _ _ _ hst₁ hb
      exact List.mem_map.mpr ⟨_, hall b (W.sub b hb) (hwr b hb) o ho, rfl⟩
    have hsep : OwnOff own (news₁.map (·.1)) := by
      intro p hp b hb e
      obtain ⟨q, hq, rfl⟩ := List.mem_map.mp hb
      exact hoff q hq (e ▸ hfw _ (hown p hp) ((N₁ p (List.mem_append_left _ hp)).2.2))
    have N₂ : News h₀ env.locals h₁ (news₁ ++ own) := fun p hp => N₁ p ((List.mem_append.mp hp).elim (fun h => List.mem_append.mpr (.inr h)) fun h => List.mem_append.mpr (.inl h))
    refine wpAny_mono (turn i v m₁ news₁ h₁ tk₁ own hin hP hsep hJ F₁ N₂) (fun _ s₃ q => wpAny_mono q (fun f s₂ p => ?_) fun _ _ e => e) fun _ _ e => e
    cases f with
    | ret v => exact .ret p
    | brk => exact .brk p
    | next => exact .next (stepU_of (I := I) hw p)
    | cont => exact .cont (stepU_of (I := I) hw p)
  · rintro h' tk m' news' F' N' _ hJ
    exact done m' news' h' tk hJ F' N'
/-- enumerate of a text -/
theorem iter_enumStr {elts : List Expr} {k : Nat} {pos : Pos} {x : Str} {tx : Tok} {m₀ : Str → Option Value} {news : List (Addr × Obj)} (J : Nat → (Str → Option Value) → List (Addr × Obj) → Prop)
    (hh : A.handled = none) (F : Fr h₀ env.locals s.heap m₀) (N : News h₀ env.locals s.heap news) (hj : J 0 m₀ news)
    (turn : ∀ (i : Nat) c T t u m₁ news₁ h tk own, x.cps.toList[i]? = some c → IsTup h T #[.int (i : Int) t, .str ⟨#[c]⟩ u] → OwnOff own (news₁.map (·.1)) → J i m₁ news₁ → Fr h₀ env.locals h m₁ → News h₀ env.locals h (news₁ ++ own) →
      wpAny (model prog w) A (assign (.Tuple elts k pos) env (.ref T)) (fun _ s₃ => wpAny (model prog w) A (execs body env) (InvPostG h₀ env.locals (J (i + 1)) own { s with heap := h, toks := tk } Q) E s₃) E { s with heap := h, toks := tk })
    (done : ∀ m₁ news₁ h tk, J x.length m₁ news₁ → Fr h₀ env.locals h m₁ → News h₀ env.locals h news₁ → Q .next { s with heap := h, toks := tk }) :
    wpAny (model prog w) A (call (.type "enumerate") [.str x tx]) (fun xv s₁ => wpAny (model prog w) A (pyIter xv) (fun it s₂ => TurnsAt prog w A h₀ env (.Tuple elts k pos) body Q E it s₂) E s₁) E s := by
  have hLs : env.locals < s.heap.objs.size := F.ns.lt
  refine call_enumerate_str fun h' he hit hsz hk => ?_
  refine wpAny_pyIter_enum he ?_
  have F' : Fr h₀ env.locals h' m₀ := ⟨F.ns.keeps hk, fun b o e => hk b o (F.keep b o e), F.above⟩
  have N' : News h₀ env.locals h' news := fun p hp => ⟨hk _ _ (N p hp).1, (N p hp).2⟩
  have go : ∀ {St₀ : Nat → Heap → Prop} (D : Draws prog w A.in1 s.heap.objs.size [s.heap.objs.size] x.length (fun i v => ∃ c u, x.cps[i]? = some c ∧ v = Value.str ⟨#[c]⟩ u) St₀), St₀ 0 h' → (∀ i h, St₀ i h → ∃ o, h.get? s.heap.objs.size = some o) →
      TurnsAt prog w A h₀ env (.Tuple elts k pos) body Q E (.ref (s.heap.objs.size + 1)) { s with heap := h' } := by
    intro St₀ D h0 hl
    have W := KTurns.ofWalksU (elts := elts) (k := k) (pos := pos) (WalksT.enumerateD D (s.heap.objs.size + 1) (Nat.succ_ne_self _) (fun hm => Nat.succ_ne_self _ (List.mem_singleton.mp hm)) (List.mem_singleton.mpr rfl)).toU
    refine turns_core (s := { s with heap := h' }) J W ?_ ?_ ?_ ?_ ?_ ⟨⟨_, he⟩, h0⟩ F' N' hj ?_ done
    · intro hm
      rcases List.mem_cons.mp hm with e | hm
      · exact Nat.ne_of_lt (Nat.lt_succ_of_lt hLs) e
      · exact Nat.ne_of_lt hLs (List.mem_singleton.mp hm)
    · intro b hb
      rcases List.mem_cons.mp hb with rfl | hb
      · exact ktu_new F (Nat.le_succ _)
      · rw [List.mem_singleton.mp hb]; exact ktu_new F (Nat.le_refl _)
    · intro b hb _
      exact hb
    · rintro i h b ⟨⟨old, hE⟩, st⟩ hb
      rcases List.mem_cons.mp hb with rfl | hb
      · exact ⟨_, hE⟩
      · rw [List.mem_singleton.mp hb]; exact hl _ _ st
    · intro p hp hb
      have hq1 : p.1 < s.heap.objs.size := Heap.lt_size (N p hp).1
      rcases List.mem_cons.mp hb with e | hb
      · exact Nat.ne_of_lt (Nat.lt_succ_of_lt hq1) e
      · exact Nat.ne_of_lt hq1 (List.mem_singleton.mp hb)
    · rintro i v m₁ news₁ h tk own hi ⟨T, vals, rfl, ⟨t, y, ⟨c, u, hc, rfl⟩, rfl⟩, hT⟩ hoff hJ F₁ N₁
      exact turn i c T t u m₁ news₁ h tk own (by rw [← hc, Array.getElem?_toList]) hT hoff hJ F₁ N₁
  cases ha : x.cps.all (· < 128)
  · have hit' : h'.IsStrIter s.heap.objs.size "str_iterator" x tx 0 := by simpa [strIterType, ha] using hit
    exact go (Draws.strWide (A := A.in1) hh s.heap.objs.size x tx) hit' (fun i h st => by obtain ⟨o, e, _⟩ := st; exact ⟨o, e⟩)
  · have hit' : h'.IsStrIter s.heap.objs.size "str_ascii_iterator" x tx 0 := by simpa [strIterType, ha] using hit
    exact go (Draws.strAscii (A := A.in1) hh s.heap.objs.size x tx) hit' (fun i h st => by obtain ⟨o, e, _⟩ := st; exact ⟨o, e⟩)
end
end Mine
end
section
open PySem PySem.W PySem.Calls PySem.Spec PyProof PyProof.Rows
set_option Elab.async false
namespace Mine
theorem newIn_mono {h g h' : Heap} {led : List (Addr × Obj)} (hs : h.StaysIn g) (hr : NewIn g h' led) : NewIn h h' led := fun p hp => by
  refine ⟨?_, (hr p hp).2⟩
  cases e : h.get? p.1 with
  | none => rfl
  | some o => have := hs _ _ e; rw [(hr p hp).1] at this; cases this
/-- a row of the table of places: a sign, its list, the places, the list's room -/
abbrev Row := Nat × Addr × List Value × Nat
def kvsOf (T : List Row) : List (Str × Value) := T.map fun r => ((⟨#[r.1]⟩ : Str), Value.ref r.2.1)
def ledOf (T : List Row) : List (Addr × Obj) := T.map fun r => (r.2.1, W.listOf r.2.2.1.toArray r.2.2.2)
def occ (l : List Nat) (n : Nat) (c : Nat) : List Nat := (List.range n).filter fun i => l[i]? == some c
theorem occ_succ (l : List Nat) (n c : Nat) : occ l (n + 1) c = occ l n c ++ if l[n]? = some c then [n] else [] := by
  unfold occ
  rw [List.range_succ, List.filter_append]
  congr 1
  by_cases h : l[n]? = some c
  · simp [h]
  · simp [h]
structure TabOk (l : List Nat) (n : Nat) (T : List Row) : Prop where
  fInts : ∀ r ∈ T, IntsAre r.2.2.1 ((occ l n r.1).map fun i : Nat => (i : Int))
  fHas : ∀ i, i < n → ∀ c, l[i]? = some c → ∃ r ∈ T, r.1 = c
  fKeys : (T.map (·.1)).Nodup
  fAddrs : (T.map (·.2.1)).Nodup
  fLen : T.length ≤ n
theorem TabOk.nil (l : List Nat) : TabOk l 0 [] := { fInts := (fun _ h => nomatch h), fHas := (fun _ h => absurd h (Nat.not_lt_zero _)), fKeys := List.Pairwise.nil, fAddrs := List.Pairwise.nil, fLen := Nat.le_refl _ }
theorem sign_inj {a b : Nat} (h : (⟨#[a]⟩ : Str) = ⟨#[b]⟩) : a = b := by
  simp only [Str.mk.injEq] at h
  have := congrArg Array.toList h
  simpa using this
theorem kvs_value : ∀ {T : List Row}, (T.map (·.1)).Nodup → ∀ r ∈ T, valueAt (kvsOf T) ⟨#[r.1]⟩ = some (.ref r.2.1)
  | [], _, _, h => nomatch h
  | q :: T, hn, r, h => by
    rw [List.map_cons, List.nodup_cons] at hn
    unfold valueAt kvsOf
    rw [List.map_cons, List.find?_cons]
    by_cases e : q.1 = r.1
    · have : decide ((⟨#[q.1]⟩ : Str) = ⟨#[r.1]⟩) = true := by rw [e]; simp
      rw [this]
      rcases List.mem_cons.mp h with rfl | h
      · rfl
      · exact absurd (List.mem_map.mpr ⟨r, h, rfl⟩) (e ▸ hn.1)
    · have : decide ((⟨#[q.1]⟩ : Str) = ⟨#[r.1]⟩) = false := by
        rw [decide_eq_false_iff_not]; exact fun q' => e (sign_inj q')
      rw [this]
      rcases List.mem_cons.mp h with rfl | h
      · exact absurd rfl e
      · exact kvs_value hn.2 r h
theorem kvs_none {T : List Row} {c : Nat} (h : ∀ r ∈ T, r.1 ≠ c) : valueAt (kvsOf T) ⟨#[c]⟩ = none := by
  unfold valueAt
  rw [Option.map_eq_none_iff, List.find?_eq_none]
  intro kv hkv
  obtain ⟨r, hr, rfl⟩ := List.mem_map.mp hkv
  rw [decide_eq_true_eq]
  exact fun q => h r hr (sign_inj q)
theorem kvs_stored {T : List Row} {c : Nat} (h : ∀ r ∈ T, r.1 ≠ c) (D : Addr) (vs : List Value) (k : Nat) : stored (kvsOf T) ⟨#[c]⟩ (.ref D) = kvsOf (T ++ [(c, D, vs, k)]) := by
  unfold stored
  rw [if_neg]
  · simp [kvsOf]
  · rw [List.any_eq_true]
    rintro ⟨kv, hkv, e⟩
    obtain ⟨r, hr, rfl⟩ := List.mem_map.mp hkv
    rw [decide_eq_true_eq] at e
    exact h r hr (sign_inj e)
theorem TabOk.old {l : List Nat} {n : Nat} {T1 T2 : List Row} {c : Nat} {a : Addr} {vs : List Value} {k k' : Nat} {t : Tok} (h : TabOk l n (T1 ++ (c, a, vs, k) :: T2)) (hc : l[n]? = some c) :
    TabOk l (n + 1) (T1 ++ (c, a, vs ++ [.int (n : Int) t], k') :: T2) := by
  have hk := h.fKeys
  have ha := h.fAddrs
  have hne : ∀ r, r ∈ T1 ∨ r ∈ T2 → r.1 ≠ c := by
    rw [List.map_append, List.map_cons, List.nodup_append] at hk
    obtain ⟨_, h2, h3⟩ := hk
    rw [List.nodup_cons] at h2
    intro r hr e
    rcases hr with hr | hr
    · exact h3 _ (List.mem_map.mpr ⟨r, hr, rfl⟩) c (.head _) e
    · exact h2.1 (e ▸ List.mem_map.mpr ⟨r, hr, rfl⟩)
  refine ⟨fun r hr => ?_, fun i hi d hd => ?_, by simpa using hk, by simpa using ha, ?_⟩
  · rw [occ_succ, hc]
    have old : r ∈ T1 ∨ r ∈ T2 → IntsAre r.2.2.1 ((occ l n r.1 ++ if some c = some r.1 then [n] else []).map fun i : Nat => (i : Int)) := fun hr' => by
      rw [if_neg (fun e => hne r hr' (Option.some.inj e).symm), List.append_nil]
      exact h.fInts r (by rcases hr' with hr' | hr' <;> simp [hr'])
    rcases List.mem_append.mp hr with hr | hr
    · exact old (.inl hr)
    · rcases List.mem_cons.mp hr with rfl | hr
      · dsimp only
        rw [if_pos rfl, List.map_append]
        exact IntsAre.append (h.fInts (c, a, vs, k) (by simp)) (.cons _ _ .nil)
      · exact old (.inr hr)
  · rcases Nat.lt_or_ge i n with h1 | h1
    · obtain ⟨r, hr, e⟩ := h.fHas i h1 d hd
      rcases List.mem_append.mp hr with hr | hr
      · exact ⟨r, by simp [hr], e⟩
      · rcases List.mem_cons.mp hr with rfl | hr
        · exact ⟨_, List.mem_append_right _ (.head _), e⟩
        · exact ⟨r, by simp [hr], e⟩
    · have : i = n := by omega
      subst this
      rw [hc] at hd
      exact ⟨_, List.mem_append_right _ (.head _), Option.some.inj hd⟩
  · have := h.fLen
    simp only [List.length_append, List.length_cons] at this ⊢
    omega
theorem TabOk.new {l : List Nat} {n : Nat} {T : List Row} {c : Nat} {D : Addr} {k' : Nat} {t : Tok} (h : TabOk l n T) (hc : l[n]? = some c) (hno : ∀ r ∈ T, r.1 ≠ c) (hD : ∀ r ∈ T, r.2.1 ≠ D) :
    TabOk l (n + 1) (T ++ [(c, D, [.int (n : Int) t], k')]) := by
  have hocc : occ l n c = [] := by
    unfold occ
    rw [List.filter_eq_nil_iff]
    intro i hi e
    obtain ⟨r, hr, q⟩ := h.fHas i (List.mem_range.mp hi) c (by simpa using e)
    exact hno r hr q
  refine ⟨fun r hr => ?_, fun i hi d hd => ?_, ?_, ?_, ?_⟩
  · rw [occ_succ, hc]
    rcases List.mem_append.mp hr with hr | hr
    · rw [if_neg (fun e => hno r hr (Option.some.inj e).symm), List.append_nil]
      exact h.fInts r hr
    · rw [List.mem_singleton.mp hr, hocc]
      dsimp only
      rw [if_pos rfl]
      exact .cons _ _ .nil
  · rcases Nat.lt_or_ge i n with h1 | h1
    · obtain ⟨r, hr, e⟩ := h.fHas i h1 d hd
      exact ⟨r, by simp [hr], e⟩
    · have : i = n := by omega
      subst this
      rw [hc] at hd
      exact ⟨_, List.mem_append_right _ (.head _), Option.some.inj hd⟩
  · rw [List.map_append, List.nodup_append]
    refine ⟨h.fKeys, by simp, ?_⟩
    intro a ha b hb
    obtain ⟨r, hr, rfl⟩ := List.mem_map.mp ha
    simp at hb
    rw [hb]
    exact hno r hr
  · rw [List.map_append, List.nodup_append]
    refine ⟨h.fAddrs, by simp, ?_⟩
    intro a ha b hb
    obtain ⟨r, hr, rfl⟩ := List.mem_map.mp ha
    simp at hb
    rw [hb]
    exact hD r hr
  · rw [List.length_append]
    have := h.fLen
    exact Nat.add_le_add_right this 1
theorem ledOf_app (A B : List Row) : ledOf (A ++ B) = ledOf A ++ ledOf B := List.map_append
theorem mem_ledOf {T : List Row} {p : Addr × Obj} (h : p ∈ ledOf T) : ∃ r ∈ T, p = (r.2.1, W.listOf r.2.2.1.toArray r.2.2.2) := by
  obtain ⟨r, hr, e⟩ := List.mem_map.mp h
  exact ⟨r, hr, e.symm⟩
end Mine
end
section
open PySem PySem.W PySem.Calls PySem.Spec PyProof PyProof.Rows
set_option Elab.async false
namespace Mine
set_option linter.unusedVariables false
local macro_rules | `(tactic| walk_at "pyIter ref") => `(tactic| (refine stop_of ?_))
local macro_rules | `(tactic| walk_at "call ref") => `(tactic| (refine stop_of ?_))
local macro_rules | `(tactic| k_steps) => `(tactic| repeat' (first | (k_unfold; (try dsimp only)) | walk1 | (dsimp only; walk1) | (leave1; (try dsimp only)) | fail "no step"))
local macro_rules | `(tactic| walk_at "exec While Compare cons nil") => `(tactic| ((fail_if_success (rename Go => hgo)); refine stop_of ?_))
set_option hygiene false in
local macro_rules | `(tactic| walk_at "FRAME") => `(tactic| (intro y; (try dsimp only); (repeat (refine fr_step (fun hy => (by first | exact absurd hy (by assumption) | (subst hy; first | rfl | kernel_rfl))) fun hy => ?_)); (repeat (first | refine fr_last (by assumption) ?_ | refine fr_rstep (fun hy => (by subst hy; first | rfl | kernel_rfl)) fun hy => ?_)); (try rfl)))
set_option hygiene false in
local macro_rules | `(tactic| walk_at "PUR") => `(tactic| (k_dflt (refine' pur_intro (by omega) ?k6 ?k7 ?k9 ?kB ?_ ?c2 ?c3 ?c4 ?c5; (case k6 => k_is); (case k7 => k_is); (case k9 => (intro _ Xb; first | exact BindsTo.of_eq rfl | exact binds_K (by k_in) rfl (by k_is) rfl rfl rfl)); (case c5 => decide); (case kB => exact locs rfl); (case c2 => exact rfl); (case c3 => exact rfl); (case c4 => exact rfl)); k_whole; intro dp un gd env outer base mean mg mb s E L' h₁ tk hd hu hP F1 N2 B X T; (try dsimp only); (try k_fold)))
set_option hygiene false in
local macro_rules | `(tactic| walk_at "ROOM") => `(tactic| (first | omega | (simp only [Around.deeper, topE]; omega)))
set_option hygiene false in
local macro_rules | `(tactic| walk_at "SITE") => `(tactic| (refine ⟨rfl, by assumption, _, _, _, _, _, _, _, rfl, rfl, rfl, B, X, T⟩))
local macro_rules | `(tactic| walk_at "binaryOp Add ref ref") => `(tactic| (refine stop_of ?_))
set_option hygiene false in
local macro_rules | `(tactic| walk_at "SUB") => `(tactic| (intro p hp; (try simp only [List.mem_cons, List.mem_append, List.not_mem_nil, or_false, false_or] at hp ⊢); (repeat' (refine Or.elim hp (fun hp => ?_) fun hp => ?_)); (all_goals (simp only [hp, true_or, or_true]))))
local macro_rules | `(tactic| walk_at "binaryOp Add str str") => `(tactic| ((refine PyProof.Rows.add_str (hsz := ?hsz) ?_); (case hsz => (first | (simp only [Str.length_append, sizeLine_eq]; omega) | size_fits)); intro _ _))
local macro_rules | `(tactic| k_all) => `(tactic| (refine allLt_ne (by assumption) ?_; omega))
local macro_rules | `(tactic| k_all) => `(tactic| with_reducible assumption)
set_option hygiene false in
local macro_rules | `(tactic| walk_at "PURC") => `(tactic| (k_dflt (refine' pur_introC (by omega) ?k6 ?k7 ?k9 ?kB ?kD ?_ ?c2 ?c3 ?c4; (case k6 => k_is); (case k7 => k_is); (case k9 => (intro _ Xb; first | exact BindsTo.of_eq rfl | exact binds_K (by k_in) rfl (by k_is) rfl rfl rfl)); (case kB => exact rfl); (case kD => decide +kernel); (case c2 => exact rfl); (case c3 => exact rfl); (case c4 => exact rfl)); k_whole; intro dp un gd env outer base mean mg mb s E L' h₁ tk cells hd hu hP F1 N2 Y2 B X T; k_cells Y2; (try simp only [List.cons_append, List.nil_append] at N2); (try dsimp only); (try k_fold)))
local macro_rules | `(tactic| walk_at "compareOp Is str ref") => `(tactic| (refine wpAny_is_other (by rfl) (by intro x; cases x) ?_))
local macro_rules | `(tactic| walk_at "exec For Name Name cons nil") => `(tactic| (refine stop_of ?_))
set_option hygiene false in
local macro_rules | `(tactic| walk_at "OWN") => `(tactic| (k_dflt (refine' own_intro (by omega) ?k6 ?k7 ?k9 ?kB ?_ ?c2 ?c3 ?c4 ?c5; (case k6 => k_is); (case k7 => k_is); (case k9 => (intro _ Xb; first | exact BindsTo.of_eq rfl | exact binds_K (by k_in) rfl (by k_is) rfl rfl rfl)); (case c5 => decide); (case kB => exact locs rfl); (case c2 => exact rfl); (case c3 => exact rfl); (case c4 => exact rfl)); k_whole; intro dp un gd env outer base mean mg mb s E L' h₁ tk hd hu hP F1 N2 B X T; (try dsimp only); (try k_fold)))
set_option hygiene false in
local macro_rules | `(tactic| walk_at "CLS") => `(tactic| (k_dflt (refine' cls_intro (by omega) ?kh ?ki ?kj ?km ?k6 ?k7 ?k9 ?kB ?_ ?c2 ?c3 ?c4 ?c5; (case km => walk_at "MONO"); (case kh => k_is); (case ki => k_is); (case kj => k_is); (case k6 => k_is); (case k7 => k_is); (case k9 => (intro _ _ Xb; first | exact BindsTo.of_eq rfl | exact binds_K (by k_in) rfl (by k_is) rfl rfl rfl)); (case c5 => decide); (case kB => (intro _; exact locs rfl)); (case c2 => exact rfl); (case c3 => exact rfl); (case c4 => exact rfl)); k_whole; intro dp un gd env outer base mean mg mb s E L' h₁ tk xI dI hd hu lI F1 N2 B X T; (try dsimp only); (try k_fold)))
set_option hygiene false in
local macro_rules | `(tactic| walk_at "ENTER") => `(tactic| (refine' code_def ?k1 ?k2 ?k3 ?k4 ?k5 ?kA ?kF ?kK ?k6 ?k7 ?k8 ?k9 ?kB ?_ ?c2 ?c3 ?c4 ?c5; (case kA => exact rfl); (case kF => exact rfl); (case kK => exact rfl); (case k1 => k_asm); (case k2 => k_asm); (case k3 => k_asm); (case k4 => k_asm); (case k5 => k_asm); (case k6 => k_is); (case k7 => k_is); (case k8 => (simp only [depth_under_make, depth_under_kw, depth_in1, depth_deeper, depth_caller, topE]; omega)); (case k9 => first | exact BindsTo.of_eq rfl | exact binds_K (by k_in) rfl (by k_is) rfl rfl rfl | fail "k_enter: no rule for these arguments"); (case c5 => decide); (case kB => exact locs rfl); (case c2 => exact rfl); (case c3 => exact rfl); (case c4 => exact rfl); k_whole; intro g' L2' h' FG' F' N' B' X' T'; (try dsimp only); (try k_lift B'); (try k_fold)))
local macro_rules | `(tactic| walk_at "exec For Tuple Call cons nil") => `(tactic| (refine stop_of ?_))
local macro_rules | `(tactic| walk_at "call type:enumerate") => `(tactic| (refine stop_of ?_))
local macro_rules | `(tactic| walk_at "call builtin:dict.setdefault") => `(tactic| (refine stop_of ?_))
abbrev attr (P : Params) (x : Str) (t : Tok) (v : Value) : DictEntry := ⟨PyData.keyHash P x, .str x t, v⟩
abbrev attrs0 (P : Params) (f g : Str) (t u t1 t2 t3 t4 t5 t6 t7 : Tok) : List DictEntry :=
  [attr P "isjunk" t1 .none, attr P "a" t2 (.str f t), attr P "b" t3 (.str g u), attr P "autojunk" t4 (.bool true), attr P "matching_blocks" t5 .none, attr P "opcodes" t6 .none, attr P "fullbcount" t7 .none]
abbrev attrs1 (P : Params) (f g : Str) (b2 jk pp : Addr) (mbv : Value) (t u t1 t2 t3 t4 t5 t6 t7 t8 t9 t10 : Tok) : List DictEntry :=
  [attr P "isjunk" t1 .none, attr P "a" t2 (.str f t), attr P "b" t3 (.str g u), attr P "autojunk" t4 (.bool true), attr P "matching_blocks" t5 mbv, attr P "opcodes" t6 .none, attr P "fullbcount" t7 .none,
    attr P "b2j" t8 (.ref b2), attr P "bjunk" t9 (.ref jk), attr P "bpopular" t10 (.ref pp)]
/-- what stands when a matcher is made -/
structure SmIs (w : World) (f g : Str) (x d b2 jk : Addr) (oE oJ : Obj) (TB : List Row) : Prop where
  fDict : oE.IsDictOf (PySem.strKind pw w) (kvsOf TB)
  fJunk : Obj.SetObjOf (PySem.strKind pw w) oJ (fun _ => false) 0
  fTab : TabOk g.cps.toList g.length TB
  fLow : ∀ r ∈ TB, b2 < r.2.1
  fdx : d < x
  fxb : x < b2
  fbj : b2 < jk
  fsys : (b2 == sysModules) = false
abbrev frC (g : Str) (u : Tok) (xI b2 : Addr) (ui ue ux : Option Value) : Str → Option Value := fun (v : Str) => if v = "indices" then ux else if v = "elt" then ue else if v = "i" then ui else if v = "b2j" then some (.ref b2) else if v = "b" then some (.str g u) else if v = "self" then some (.ref xI) else none
def ChainR (w : World) (f g : Str) (x d : Addr) (t u t1 t2 t3 t4 t5 t6 t7 : Tok) (h : Heap) (v : Value) (h' : Heap) : Prop :=
  v = .none ∧ ∃ TB b2 jk pp oE oJ t8 t9 t10, NewIn h h' ((x, instObj 313 d) :: (d, dictOf (attrs1 w.params f g b2 jk pp .none t u t1 t2 t3 t4 t5 t6 t7 t8 t9 t10) 10) :: (b2, oE) :: (jk, oJ) :: ledOf TB) ∧ SmIs w f g x d b2 jk oE oJ TB
theorem chain_fin {w : World} {f g : Str} {x d b2 jk pp L : Addr} {t u t1 t2 t3 t4 t5 t6 t7 t8 t9 t10 : Tok} {s : Shared} {h : Heap} {tk : Nat} {m : Str → Option Value} {TB : List Row} {oE oJ oP : Obj} (F : Fr s.heap L h m)
    (N : News s.heap L h ((pp, oP) :: (jk, oJ) :: (b2, oE) :: (x, instObj 313 d) :: (d, dictOf (attrs1 w.params f g b2 jk pp .none t u t1 t2 t3 t4 t5 t6 t7 t8 t9 t10) 10) :: ledOf TB)) (S : SmIs w f g x d b2 jk oE oJ TB) :
    PEnd (ChainR w f g x d t u t1 t2 t3 t4 t5 t6 t7) s .none { s with heap := h, toks := tk } := by
  refine PEnd.intro F ⟨rfl, TB, b2, jk, pp, oE, oJ, t8, t9, t10, newIn_of N ?_, S⟩
  intro p hp
  rcases List.mem_cons.mp hp with h | hp
  · exact .tail _ (.tail _ (.tail _ (h ▸ .head _)))
  rcases List.mem_cons.mp hp with h | hp
  · exact .tail _ (.tail _ (.tail _ (.tail _ (h ▸ .head _))))
  rcases List.mem_cons.mp hp with h | hp
  · exact .tail _ (.tail _ (h ▸ .head _))
  rcases List.mem_cons.mp hp with h | hp
  · exact .tail _ (h ▸ .head _)
  exact .tail _ (.tail _ (.tail _ (.tail _ (.tail _ hp))))
set_option maxRecDepth 100000 in
set_option maxHeartbeats 4000000 in
theorem t_chain (w : World) : PySem.Challenge.rw_ik0097_01 = PySem.Challenge.rw_ik0097_01 → Kx = Kx → ∀ (f g : Str) (x d : Addr) (t u t1 t2 t3 t4 t5 t6 t7 : Tok), d < x → f.length = 8 → g.length = 8 →
    OwnK w 259 [.ref x] [(x, instObj 313 d), (d, dictOf (attrs0 w.params f g t u t1 t2 t3 t4 t5 t6 t7) 7)] 4 100 (fun _ => True)
      (ChainR w f g x d t u t1 t2 t3 t4 t5 t6 t7) := by
  k_fill
  intro _ _ f g xI dI t u t1 t2 t3 t4 t5 t6 t7 lI hlf hlg
  walk_at "OWN"
  k_lt2 lI
  simp only [attrs0, attr] at N2
  have F2 := fr_as F1 (m' := fun (y : Str) => List.lookup y [("self", Value.ref xI)]) (by intro y; kernel_rfl)
  clear F1
  simp only [lk_cons, lk_nil] at F2
  k_steps
  refine Stop.mk ?_
  refine For_turns (by assumption) ?_
  k_steps
  refine Stop.mk ?_
  (rename Fr s.heap L' _ _ => F6)
  (rename News s.heap L' _ _ => N6)
  (rename (_ == sysModules) = false => lo)
  (rename Obj.IsDictOf (PySem.strKind pw w) _ _ => hs6)
  rename_i _ b2 _ oD fs6 hi6 fi6 l6 _ _
  clear fs6 hi6 fi6
  generalize hAt : dictOf _ 8 = oA at N6
  refine iter_enumStr (fun n m' nw => ∃ (TB : List Row) (oD : Obj) (ui ue ux : Option Value), m' = frC g u xI b2 ui ue ux ∧ nw = (b2, oD) :: (xI, instObj 313 dI) :: (dI, oA) :: ledOf TB ∧ oD.IsDictOf (PySem.strKind pw w) (kvsOf TB) ∧ TabOk g.cps.toList n TB ∧ ∀ r ∈ TB, b2 < r.2.1) rfl F6 N6 ⟨[], oD, none, none, none, funext (by walk_at "FRAME"), rfl, hs6, TabOk.nil _, fun _ h => nomatch h⟩ ?turn ?done
  case done =>
    clear F6 N6 hs6
    rintro m₁ news₁ h tk ⟨TB, oE, ui, ue, ux, rfl, rfl, hs6, hTB, hlow⟩ F7 N7
    subst hAt
    have hdt : ∀ p ∈ ledOf TB, p.1 ≠ dI := fun p hp => by
      obtain ⟨r, hr, rfl⟩ := mem_ledOf hp
      exact Nat.ne_of_gt (Nat.lt_trans l6.2 (hlow r hr))
    have hglen : g.length ≤ 8 := by omega
    k_steps
    (rename Fr s.heap L' _ _ => F9)
    (rename News s.heap L' _ _ => N9)
    (rename b2 < _ ∧ xI < _ ∧ _ => hbj)
    exact chain_fin F9 N9 { fDict := hs6, fJunk := (by assumption), fTab := hTB, fLow := hlow, fdx := lI, fxb := l6.1, fbj := hbj.1, fsys := lo }
  case turn =>
    clear F6 N6 hs6
    rintro n c T tn tc m₁ news₁ h tk own hc hT hoff ⟨TB, oE, ui, ue, ux, rfl, rfl, hs6, hTB, hlow⟩ F7 N7
    simp only [List.cons_append] at N7
    k_steps
    refine Stop.mk ?_
    (rename Fr s.heap L' _ (fun y => if y = Str.ofString "elt" then _ else _) => F8)
    (rename News s.heap L' _ ((_, W.listOf #[] 0) :: _) => N8)
    (rename _ ∧ _ ∧ _ ∧ AllLt _ _ => hl8)
    rename_i l8 _
    obtain ⟨hb8, hx8, hd8, ha8⟩ := hl8
    have hn8 : n < 8 := by
      rcases Nat.lt_or_ge n 8 with h | h
      · exact h
      · rw [List.getElem?_eq_none (by rw [show g.cps.toList.length = g.length by simp [Str.length], hlg]; exact h)] at hc; cases hc
    have hsz : (kvsOf TB).length ≤ sizeLine := by
      unfold kvsOf
      have := hTB.fLen
      rw [List.length_map, sizeLine_eq]; omega
    have hbt : ∀ p ∈ ledOf TB, p.1 ≠ b2 := fun p hp => by
      obtain ⟨r, hr, rfl⟩ := mem_ledOf hp
      exact Nat.ne_of_gt (hlow r hr)
    have hb2 : ∀ p ∈ (xI, instObj 313 dI) :: (dI, oA) :: (ledOf TB ++ own), p.1 ≠ b2 := by
      intro p hp
      rcases List.mem_cons.mp hp with rfl | hp
      · exact Nat.ne_of_lt l6.1
      · rcases List.mem_cons.mp hp with rfl | hp
        · exact Nat.ne_of_lt l6.2
        · rcases List.mem_append.mp hp with hp | hp
          · exact hbt p hp
          · exact hoff p hp b2 (by simp)
    by_cases hmem : ∃ r ∈ TB, r.1 = c
    · obtain ⟨⟨c', a, vs, k⟩, hr, hcc⟩ := hmem
      dsimp only at hcc
      subst hcc
      refine kob_setdef_there (knd := PySem.strKind _ _) N8 (.tail _ (.head _)) hs6 lo (strKind_is _ _ _ _) (PySem.F.args_dict_setdefault_3 _ _ _) (kvs_value hTB.fKeys _ hr) hsz ?_
      dsimp only
      obtain ⟨T1, T2, rfl⟩ := List.append_of_mem hr
      have hap : ∀ p ∈ ledOf T1 ++ ledOf T2, p.1 ≠ a := by
        intro p hp e
        have hk := hTB.fAddrs
        rw [List.map_append, List.map_cons, List.nodup_append] at hk
        obtain ⟨_, h2, h3⟩ := hk
        rw [List.nodup_cons] at h2
        rcases List.mem_append.mp hp with hp | hp
        · obtain ⟨r, hr, rfl⟩ := mem_ledOf hp
          exact h3 _ (List.mem_map.mpr ⟨r, hr, rfl⟩) a (.head _) e
        · obtain ⟨r, hr, rfl⟩ := mem_ledOf hp
          exact h2.1 (List.mem_map.mpr ⟨r, hr, e⟩)
      have hba : b2 < a := hlow _ hr
      have N9 : News s.heap L' _ ((a, W.listOf vs.toArray k) :: (b2, oE) :: (xI, instObj 313 dI) :: (dI, oA) :: (ledOf T1 ++ ledOf T2 ++ own)) := news_sub N8 (by
        intro p hp
        rw [ledOf_app]
        simp only [ledOf, List.map_cons, List.mem_cons, List.mem_append] at hp ⊢
        rcases hp with h | h | h | h | (h | h) | h
        · simp [h]
        · simp [h]
        · simp [h]
        · simp [h]
        · exact .inr (.inr (.inr (.inr (.inl (.inl h)))))
        · exact .inr (.inr (.inr (.inr (.inl (.inr (.inr h))))))
        · exact .inr (.inr (.inr (.inr (.inr h)))))
      have hall : ∀ p ∈ (b2, oE) :: (xI, instObj 313 dI) :: (dI, oA) :: (ledOf T1 ++ ledOf T2 ++ own), p.1 ≠ a := by
        intro p hp
        rcases List.mem_cons.mp hp with rfl | hp
        · exact Nat.ne_of_lt hba
        · rcases List.mem_cons.mp hp with rfl | hp
          · exact Nat.ne_of_lt (Nat.lt_trans l6.1 hba)
          · rcases List.mem_cons.mp hp with rfl | hp
            · exact Nat.ne_of_lt (Nat.lt_trans l6.2 hba)
            · rcases List.mem_append.mp hp with hp | hp
              · exact hap p hp
              · exact hoff p hp a (by simp [ledOf])
      have hvl : vs.length ≤ 8 := by
        have := (hTB.fInts _ hr).length
        dsimp only at this
        rw [this, List.length_map]
        exact Nat.le_trans (List.length_filter_le _ _) (by rw [List.length_range]; omega)
      clear N8
      k_steps
      (rename Fr s.heap L' _ _ => F10)
      (rename News s.heap L' _ _ => N10)
      have F11 := fr_as F10 (m' := frC g u xI b2 (some (.int (n : Int) tn)) (some (.str ⟨#[c']⟩ tc)) (some (.ref a))) (by walk_at "FRAME")
      have ek : kvsOf (T1 ++ (c', a, vs ++ [Value.int (n : Int) tn], k + 1) :: T2) = kvsOf (T1 ++ (c', a, vs, k) :: T2) := by simp [kvsOf]
      have ea : (vs ++ [Value.int (n : Int) tn]).toArray = vs.toArray.push (Value.int (n : Int) tn) := by simp
      refine InvEndG.intro F11 N10 ⟨T1 ++ (c', a, vs ++ [Value.int (n : Int) tn], k + 1) :: T2, oE, _, _, _, rfl, rfl, by rw [ek]; exact hs6, TabOk.old hTB hc, ?_⟩ ?_ ?_ ?_
      · intro r hr
        rcases List.mem_append.mp hr with h | h
        · exact hlow r (by simp [h])
        · rcases List.mem_cons.mp h with rfl | h
          · exact hba
          · exact hlow r (by simp [h])
      · intro p hp b hb
        refine hoff p hp b ?_
        rw [ledOf_app] at hb ⊢
        simpa [ledOf] using hb
      · intro p hp
        rw [ledOf_app] at hp
        simp only [ledOf, List.map_cons, List.mem_cons, List.mem_append] at hp ⊢
        rw [ea] at hp
        rcases hp with h | h | h | h | h | h
        · simp [h]
        · simp [h]
        · simp [h]
        · exact .inr (.inr (.inr (.inr (.inl (.inl h)))))
        · exact .inl h
        · exact .inr (.inr (.inr (.inr (.inl (.inr h)))))
      · intro p hp
        simp [hp]
    · have hno : ∀ r ∈ TB, r.1 ≠ c := fun r hr e => hmem ⟨r, hr, e⟩
      refine kob_setdef_new (knd := PySem.strKind _ _) F8 N8 (UpdF.tail (Nat.ne_of_gt hb8) (UpdF.head hb2)) hs6 lo (strKind_is _ _ _ _) (PySem.F.args_dict_setdefault_3 _ _ _) (kvs_none hno) hsz ?_
      intro h9 o9 F9 N9 hs9
      have h8all : ∀ p ∈ (b2, o9) :: (xI, instObj 313 dI) :: (dI, oA) :: (ledOf TB ++ own), p.1 ≠ l8 := by
        intro p hp
        rcases List.mem_cons.mp hp with rfl | hp
        · exact Nat.ne_of_lt hb8
        · rcases List.mem_cons.mp hp with rfl | hp
          · exact Nat.ne_of_lt hx8
          · rcases List.mem_cons.mp hp with rfl | hp
            · exact Nat.ne_of_lt hd8
            · exact allLt_ne ha8 (Nat.le_refl _) p hp
      clear N8 F8
      k_steps
      (rename Fr s.heap L' _ _ => F10)
      (rename News s.heap L' _ _ => N10)
      have F11 := fr_as F10 (m' := frC g u xI b2 (some (.int (n : Int) tn)) (some (.str ⟨#[c]⟩ tc)) (some (.ref l8))) (by walk_at "FRAME")
      have hD : ∀ r ∈ TB, r.2.1 ≠ l8 := fun r hr => h8all (r.2.1, W.listOf r.2.2.1.toArray r.2.2.2) (by
        refine .tail _ (.tail _ (.tail _ (List.mem_append_left _ ?_)))
        exact List.mem_map.mpr ⟨r, hr, rfl⟩)
      have ho8 : ∀ p ∈ own, p.1 ≠ l8 := fun p hp => h8all p (by simp [hp])
      rw [kvs_stored hno l8 [.int (n : Int) tn] 1] at hs9
      refine InvEndG.intro F11 N10 ⟨TB ++ [(c, l8, [Value.int (n : Int) tn], 1)], o9, _, _, _, rfl, rfl, hs9, TabOk.new hTB hc hno hD, ?_⟩ ?_ ?_ ?_
      · intro r hr
        rcases List.mem_append.mp hr with h | h
        · exact hlow r h
        · rw [List.mem_singleton.mp h]; exact hb8
      · intro p hp b hb
        rw [ledOf_app] at hb
        simp only [List.map_cons, List.map_append, List.mem_cons, List.mem_append] at hb
        rcases hb with h | h | h | h | h
        · exact hoff p hp b (by simp [h])
        · exact hoff p hp b (by simp [h])
        · exact hoff p hp b (by simp [h])
        · exact hoff p hp b (by simp only [List.map_cons, List.mem_cons]; exact .inr (.inr (.inr h)))
        · simp [ledOf] at h
          rw [h]; exact ho8 p hp
      · intro p hp
        rw [ledOf_app] at hp
        simp only [List.mem_cons, List.mem_append] at hp ⊢
        rcases hp with h | h | h | h | h
        · simp [h]
        · simp [h]
        · simp [h]
        · exact .inr (.inr (.inr (.inr (.inl h))))
        · simp only [ledOf, List.map_cons, List.map_nil, List.mem_singleton] at h
          exact .inl h
      · intro p hp
        simp [hp]
end Mine
end
section
open PySem PySem.W PySem.Calls PySem.Spec PyProof PyProof.Rows
set_option Elab.async false
namespace Mine
set_option linter.unusedVariables false
local macro_rules | `(tactic| walk_at "pyIter ref") => `(tactic| (refine stop_of ?_))
local macro_rules | `(tactic| walk_at "call ref") => `(tactic| (refine stop_of ?_))
local macro_rules | `(tactic| k_steps) => `(tactic| repeat' (first | (k_unfold; (try dsimp only)) | walk1 | (dsimp only; walk1) | (leave1; (try dsimp only)) | fail "no step"))
local macro_rules | `(tactic| walk_at "exec While Compare cons nil") => `(tactic| ((fail_if_success (rename Go => hgo)); refine stop_of ?_))
set_option hygiene false in
local macro_rules | `(tactic| walk_at "FRAME") => `(tactic| (intro y; (try dsimp only); (repeat (refine fr_step (fun hy => (by first | exact absurd hy (by assumption) | (subst hy; first | rfl | kernel_rfl))) fun hy => ?_)); (repeat (first | refine fr_last (by assumption) ?_ | refine fr_rstep (fun hy => (by subst hy; first | rfl | kernel_rfl)) fun hy => ?_)); (try rfl)))
set_option hygiene false in
local macro_rules | `(tactic| walk_at "PUR") => `(tactic| (k_dflt (refine' pur_intro (by omega) ?k6 ?k7 ?k9 ?kB ?_ ?c2 ?c3 ?c4 ?c5; (case k6 => k_is); (case k7 => k_is); (case k9 => (intro _ Xb; first | exact BindsTo.of_eq rfl | exact binds_K (by k_in) rfl (by k_is) rfl rfl rfl)); (case c5 => decide); (case kB => exact locs rfl); (case c2 => exact rfl); (case c3 => exact rfl); (case c4 => exact rfl)); k_whole; intro dp un gd env outer base mean mg mb s E L' h₁ tk hd hu hP F1 N2 B X T; (try dsimp only); (try k_fold)))
set_option hygiene false in
local macro_rules | `(tactic| walk_at "ROOM") => `(tactic| (first | omega | (simp only [Around.deeper, topE]; omega)))
set_option hygiene false in
local macro_rules | `(tactic| walk_at "SITE") => `(tactic| (refine ⟨rfl, by assumption, _, _, _, _, _, _, _, rfl, rfl, rfl, B, X, T⟩))
local macro_rules | `(tactic| walk_at "binaryOp Add ref ref") => `(tactic| (refine stop_of ?_))
set_option hygiene false in
local macro_rules | `(tactic| walk_at "SUB") => `(tactic| (intro p hp; (try simp only [List.mem_cons, List.mem_append, List.not_mem_nil, or_false, false_or] at hp ⊢); (repeat' (refine Or.elim hp (fun hp => ?_) fun hp => ?_)); (all_goals (simp only [hp, true_or, or_true]))))
local macro_rules | `(tactic| walk_at "binaryOp Add str str") => `(tactic| ((refine PyProof.Rows.add_str (hsz := ?hsz) ?_); (case hsz => (first | (simp only [Str.length_append, sizeLine_eq]; omega) | size_fits)); intro _ _))
local macro_rules | `(tactic| k_all) => `(tactic| (refine allLt_ne (by assumption) ?_; omega))
local macro_rules | `(tactic| k_all) => `(tactic| with_reducible assumption)
set_option hygiene false in
local macro_rules | `(tactic| walk_at "PURC") => `(tactic| (k_dflt (refine' pur_introC (by omega) ?k6 ?k7 ?k9 ?kB ?kD ?_ ?c2 ?c3 ?c4; (case k6 => k_is); (case k7 => k_is); (case k9 => (intro _ Xb; first | exact BindsTo.of_eq rfl | exact binds_K (by k_in) rfl (by k_is) rfl rfl rfl)); (case kB => exact rfl); (case kD => decide +kernel); (case c2 => exact rfl); (case c3 => exact rfl); (case c4 => exact rfl)); k_whole; intro dp un gd env outer base mean mg mb s E L' h₁ tk cells hd hu hP F1 N2 Y2 B X T; k_cells Y2; (try simp only [List.cons_append, List.nil_append] at N2); (try dsimp only); (try k_fold)))
local macro_rules | `(tactic| walk_at "compareOp Is str ref") => `(tactic| (refine wpAny_is_other (by rfl) (by intro x; cases x) ?_))
local macro_rules | `(tactic| walk_at "exec For Name Name cons nil") => `(tactic| (refine stop_of ?_))
set_option hygiene false in
local macro_rules | `(tactic| walk_at "OWN") => `(tactic| (k_dflt (refine' own_intro (by omega) ?k6 ?k7 ?k9 ?kB ?_ ?c2 ?c3 ?c4 ?c5; (case k6 => k_is); (case k7 => k_is); (case k9 => (intro _ Xb; first | exact BindsTo.of_eq rfl | exact binds_K (by k_in) rfl (by k_is) rfl rfl rfl)); (case c5 => decide); (case kB => exact locs rfl); (case c2 => exact rfl); (case c3 => exact rfl); (case c4 => exact rfl)); k_whole; intro dp un gd env outer base mean mg mb s E L' h₁ tk hd hu hP F1 N2 B X T; (try dsimp only); (try k_fold)))
set_option hygiene false in
local macro_rules | `(tactic| walk_at "CLS") => `(tactic| (k_dflt (refine' cls_intro (by omega) ?kh ?ki ?kj ?km ?k6 ?k7 ?k9 ?kB ?_ ?c2 ?c3 ?c4 ?c5; (case km => walk_at "MONO"); (case kh => k_is); (case ki => k_is); (case kj => k_is); (case k6 => k_is); (case k7 => k_is); (case k9 => (intro _ _ Xb; first | exact BindsTo.of_eq rfl | exact binds_K (by k_in) rfl (by k_is) rfl rfl rfl)); (case c5 => decide); (case kB => (intro _; exact locs rfl)); (case c2 => exact rfl); (case c3 => exact rfl); (case c4 => exact rfl)); k_whole; intro dp un gd env outer base mean mg mb s E L' h₁ tk xI dI hd hu lI F1 N2 B X T; (try dsimp only); (try k_fold)))
set_option hygiene false in
local macro_rules | `(tactic| walk_at "ENTER") => `(tactic| (refine' code_def ?k1 ?k2 ?k3 ?k4 ?k5 ?kA ?kF ?kK ?k6 ?k7 ?k8 ?k9 ?kB ?_ ?c2 ?c3 ?c4 ?c5; (case kA => exact rfl); (case kF => exact rfl); (case kK => exact rfl); (case k1 => k_asm); (case k2 => k_asm); (case k3 => k_asm); (case k4 => k_asm); (case k5 => k_asm); (case k6 => k_is); (case k7 => k_is); (case k8 => (simp only [depth_under_make, depth_under_kw, depth_in1, depth_deeper, depth_caller, topE]; omega)); (case k9 => first | exact BindsTo.of_eq rfl | exact binds_K (by k_in) rfl (by k_is) rfl rfl rfl | fail "k_enter: no rule for these arguments"); (case c5 => decide); (case kB => exact locs rfl); (case c2 => exact rfl); (case c3 => exact rfl); (case c4 => exact rfl); k_whole; intro g' L2' h' FG' F' N' B' X' T'; (try dsimp only); (try k_lift B'); (try k_fold)))
local macro_rules | `(tactic| walk_at "call ref") => `(tactic| (first
  | ((with_reducible show wpAny _ _ (call (Value.ref 259) _ _) _ _ _); refine stop_of ?_)
  | (k_here; k_dflt (first
  | (refine' call_meth ?k1 ?k2 ?_; (case k1 => k_asm); (case k2 => k_mem); k_whole; walk_at "ENTER")
  | (refine wpAny_call ?_; walk_at "ENTER")))))
/-- what making a matcher leaves -/
def SmR (w : World) (f g : Str) (t u : Tok) (h : Heap) (v : Value) (h' : Heap) : Prop :=
  ∃ x d TB b2 jk pp oE oJ t1 t2 t3 t4 t5 t6 t7 t8 t9 t10, v = .ref x ∧ NewIn h h' ((x, instObj 313 d) :: (d, dictOf (attrs1 w.params f g b2 jk pp .none t u t1 t2 t3 t4 t5 t6 t7 t8 t9 t10) 10) :: (b2, oE) :: (jk, oJ) :: ledOf TB) ∧ SmIs w f g x d b2 jk oE oJ TB
theorem smR_mono (w : World) (f g : Str) (t u : Tok) (h k h' : Heap) (v : Value) (hs : h.StaysIn k) (hr : SmR w f g t u k v h') : SmR w f g t u h v h' := by
  obtain ⟨x, d, TB, b2, jk, pp, oE, oJ, t1, t2, t3, t4, t5, t6, t7, t8, t9, t10, e, hn, hS⟩ := hr
  exact ⟨x, d, TB, b2, jk, pp, oE, oJ, t1, t2, t3, t4, t5, t6, t7, t8, t9, t10, e, newIn_mono hs hn, hS⟩
local macro_rules | `(tactic| walk_at "MONO") => `(tactic| exact smR_mono _ _ _ _ _)
set_option maxRecDepth 100000 in
set_option maxHeartbeats 4000000 in
theorem t_sm (w : World) : PySem.Challenge.rw_ik0097_01 = PySem.Challenge.rw_ik0097_01 → Kx = Kx → ∀ (f g : Str) (t u : Tok), f.length = 8 → g.length = 8 →
    Pur w 313 [.none, .str f t, .str g u] 9 200 (fun _ => True) (SmR w f g t u) := by
  k_fill
  intro _ _ f g t u hlf hlg
  walk_at "CLS"
  k_lt2 lI
  have F2 := fr_as F1 (m' := fun (y : Str) => List.lookup y [("autojunk", Value.bool true), ("b", Value.str g u), ("a", Value.str f t), ("isjunk", Value.none), ("self", Value.ref xI)]) (by intro y; kernel_rfl)
  clear F1
  simp only [lk_cons, lk_nil] at F2
  k_steps
  refine Stop.mk ?_
  (rename Fr _ _ _ _ => F6)
  (rename News _ _ _ _ => N6)
  refine own_use (t_chain w rfl rfl f g xI dI _ _ _ _ _ _ _ _ _ lI hlf hlg) ⟨rfl, by assumption, _, _, _, _, _, _, _, rfl, rfl, rfl, by assumption, by assumption, by assumption⟩ N6 (show dp + 1 + 1 + 1 + 1 + 4 < recursionLimit by omega) (show un + 1 + 3 + 3 + 3 + 100 < cLine by omega) trivial ?_
  rintro r h9 tk9 hs9 F9 ⟨rfl, TB, b2, jk, pp, oE, oJ, t8, t9, t10, hn, hS⟩
  have N9 := less_newIn F6 N6 hn
  clear hn N6 F6 hs9
  k_steps
  (rename Fr s.heap L' _ _ => F10)
  (rename News s.heap L' _ _ => N10)
  exact PEnd.intro F10 ⟨rfl, xI, dI, TB, b2, jk, pp, oE, oJ, _, _, _, _, _, _, _, t8, t9, t10, rfl, newIn_of N10 (fun p hp => hp), hS⟩
end Mine
end
section
open PySem PySem.W PySem.Calls PySem.Spec PyProof PyProof.Rows
set_option Elab.async false
namespace Mine
abbrev boundObj (id : String) (a : Addr) : Obj := { cls := .type "builtin_function_or_method", data := .fields #[.builtin id, .ref a] }
namespace BM
theorem slot_get : Slot "method_descriptor" "__get__" "method_descriptor.__get__" :=
  .of (owner := "method_descriptor") (n := "__get__") (by rw [typeLookup_type, builtinLookup_eq_fast]; kernel_rfl) (by decide +kernel) (by decide +kernel) (by decide +kernel)
    (by first | exact .inl (by decide +kernel) | exact .inr (by decide +kernel)) (by rw [isSubtype_type]; kernel_rfl)
theorem entry_get : entryFor table "method_descriptor.__get__" = some Builtin.«method_descriptor.__get__» := entryFor_of_tree (by kernel_rfl)
theorem args_get (a b c : Value) : argsOk "method_descriptor.__get__" ⟨[a, b, c], []⟩ := by unfold argsOk; kernel_rfl
theorem no_set : typeLookup (.type "method_descriptor") "__set__" = pure none := by rw [typeLookup_type, builtinLookup_eq_fast]; kernel_rfl
theorem no_delete : typeLookup (.type "method_descriptor") "__delete__" = pure none := by rw [typeLookup_type, builtinLookup_eq_fast]; kernel_rfl
theorem list_no_getattr : typeLookup (.type "list") "__getattr__" = pure none := by rw [typeLookup_type, builtinLookup_eq_fast]; kernel_rfl
theorem sub_list : isSubtype (.type "list") (.type "list") = pure true := by rw [isSubtype_type]; kernel_rfl
end BM
section
variable {prog : Program} {w : World} {A : Around} {E : Value → Shared → Prop} {s : Shared}
/-- what a bound method of a built-in class needs -/
structure BoundOk (T : String) (name : String) (id : String) : Prop where
  told : (Manifest.toldItsClass.contains id) = false
  sub : isSubtype (.type T) (.type T) = pure true
  owner : ".".intercalate (id.cutAt '.').dropLast = T
theorem run_get_bound {T name id : String} (K : BoundOk T name id) {P : Fin → Shared → Prop} {a : Addr} {o : Obj} (ho : s.heap.get? a = some o) (hc : o.cls = .type T) (h : P (.done (.ret (.ref s.heap.objs.size))) { s with heap := s.heap.push (boundObj id a) }) :
    wpAny (model prog w) A (Builtin.«method_descriptor.__get__» ⟨[.builtin id, .ref a, .type T], []⟩) P E s := by
  have hT : s.TypeIs (.ref a) T := ⟨_, ho, hc⟩
  have f1 := K.sub
  unfold Builtin.«method_descriptor.__get__»
  refine wpAny_bind (wpAny_of_eq (a := (.builtin id, some (.ref a), some (.type T))) (by first | rfl | kernel_rfl) ?_)
  dsimp only
  rw [if_neg (by rw [K.told]; exact Bool.false_ne_true)]
  refine wpAny_bind ?_
  refine wpAny_bind (wpAny_of_eq (a := (Str.ofString ((id.cutAt '.').getLastD ""), Value.type (".".intercalate (id.cutAt '.').dropLast))) rfl ?_)
  dsimp only
  rw [K.owner]
  refine wpAny_bind (wpAny_isInstance hT K.sub ?_)
  rw [if_neg (by decide)]
  refine wpAny_pure ?_
  exact wpAny_bind (wpAny_newObj_type (wpAny_pure h))
theorem call_get_bound {T name id : String} (K : BoundOk T name id) (hty : typeOf (.builtin id) = pure (.type "method_descriptor")) {R : Result → Shared → Prop} {a : Addr} {o : Obj} (ho : s.heap.get? a = some o) (hc : o.cls = .type T)
    (h : R (.ok (.ret (.ref s.heap.objs.size))) { s with heap := s.heap.push (boundObj id a) }) :
    codeAny (model prog w) A (.call (.builtin "method_descriptor.__get__") ⟨[.builtin id, .ref a, .type T], []⟩) R s :=
  codeAny_call_builtin BM.slot_get.plain BM.entry_get (BM.slot_get.check _ _ _ _ _ _ _ _ (show s.TypeIs (.builtin id) "method_descriptor" from hty) (BM.args_get _ _ _) (run_get_bound K ho hc h))
theorem run_ga_list {P : Fin → Shared → Prop} {a : Addr} {xs : Array Value} {k : Nat} {sl : Array (Option Value)} {u : Tok} (hx : s.heap.get? a = some { cls := .type "list", dict := none, data := .seq xs k, slots := sl })
    (h : P (.done (.ret (.ref s.heap.objs.size))) { s with heap := s.heap.push (boundObj "list.append" a) }) :
    wpAny (model prog w) A (Builtin.«object.__getattribute__» ⟨[.ref a, .str "append" u], []⟩) P E s := by
  obtain ⟨hp, g, d, tk, os⟩ := s
  have hT : (⟨hp, g, d, tk, os⟩ : Shared).TypeIs (.ref a) "list" := ⟨_, hx, rfl⟩
  have f4 := F.slot_list_append.lookup
  have f5 := F.type_list_append
  have f6 := BM.slot_get.lookup
  have f7 := BM.no_set
  have f8 := BM.no_delete
  unfold Builtin.«object.__getattribute__»
  repeat (any_goals (first | assumption | wp_step))
  exact call_get_bound (name := "append") ⟨by decide +kernel, by rw [isSubtype_type]; kernel_rfl, by decide +kernel⟩ F.type_list_append hx rfl (wpAny_pure h)
theorem getAttr_list {Q : Value → Shared → Prop} {a : Addr} {o : Obj} (ho : s.heap.get? a = some o) (hc : o.cls = .type "list") (hd : o.dict = none) (hdat : ∃ xs k, o.data = .seq xs k)
    (h : ∀ tk, Q (.ref s.heap.objs.size) { s with heap := s.heap.push (boundObj "list.append" a), toks := tk }) : wpAny (model prog w) A (getAttr (.ref a) "append" true) Q E s := by
  obtain ⟨c, dct, dat, sl⟩ := o
  obtain ⟨xs, k, hdat⟩ := hdat
  dsimp only at hc hd hdat
  subst hc hd hdat
  obtain ⟨hp, g, d, tk, os⟩ := s
  have hT : ∀ tk', (⟨hp, g, d, tk', os⟩ : Shared).TypeIs (.ref a) "list" := fun _ => ⟨_, ho, rfl⟩
  have f3 := F.slot_list_getattribute.lookup
  have f4 := F.slot_list_getattribute.bind (.ref a)
  unfold getAttr getAttrBy
  repeat (any_goals (first | assumption | exact hT _ | wp_step))
  refine codeAny_call_builtin F.slot_list_getattribute.plain F.entry_list_ga (F.slot_list_getattribute.check _ _ _ _ _ _ _ _ (hT _) (F.args_list_getattribute_2 _ _) (run_ga_list (s := ⟨hp, g, d, tk + 1, os⟩) ho ?_))
  show wpAny _ _ (handedOut _) _ _ _
  rw [PySem.W.handedOut_of (show PySem.W.handedIn (.ref _) = true from rfl)]
  exact wpAny_pure (h _)
theorem run_ga_dict {P : Fin → Shared → Prop} {a : Addr} {xs : Array DictEntry} {k : Nat} {sl : Array (Option Value)} {u : Tok} (hx : s.heap.get? a = some { cls := .type "dict", dict := none, data := .dict xs k, slots := sl })
    (h : P (.done (.ret (.ref s.heap.objs.size))) { s with heap := s.heap.push (boundObj "dict.get" a) }) :
    wpAny (model prog w) A (Builtin.«object.__getattribute__» ⟨[.ref a, .str "get" u], []⟩) P E s := by
  obtain ⟨hp, g, d, tk, os⟩ := s
  have hT : (⟨hp, g, d, tk, os⟩ : Shared).TypeIs (.ref a) "dict" := ⟨_, hx, rfl⟩
  have f4 := F.slot_dict_get.lookup
  have f5 := F.type_dict_get
  have f6 := BM.slot_get.lookup
  have f7 := BM.no_set
  have f8 := BM.no_delete
  unfold Builtin.«object.__getattribute__»
  repeat (any_goals (first | assumption | wp_step))
  exact call_get_bound (name := "get") ⟨by decide +kernel, by rw [isSubtype_type]; kernel_rfl, by decide +kernel⟩ F.type_dict_get hx rfl (wpAny_pure h)
theorem getAttr_dict {Q : Value → Shared → Prop} {a : Addr} {o : Obj} (ho : s.heap.get? a = some o) (hc : o.cls = .type "dict") (hd : o.dict = none) (hdat : ∃ xs k, o.data = .dict xs k)
    (h : ∀ tk, Q (.ref s.heap.objs.size) { s with heap := s.heap.push (boundObj "dict.get" a), toks := tk }) : wpAny (model prog w) A (getAttr (.ref a) "get" true) Q E s := by
  obtain ⟨c, dct, dat, sl⟩ := o
  obtain ⟨xs, k, hdat⟩ := hdat
  dsimp only at hc hd hdat
  subst hc hd hdat
  obtain ⟨hp, g, d, tk, os⟩ := s
  have hT : ∀ tk', (⟨hp, g, d, tk', os⟩ : Shared).TypeIs (.ref a) "dict" := fun _ => ⟨_, ho, rfl⟩
  have f3 := F.slot_dict_getattribute.lookup
  have f4 := F.slot_dict_getattribute.bind (.ref a)
  unfold getAttr getAttrBy
  repeat (any_goals (first | assumption | exact hT _ | wp_step))
  refine codeAny_call_builtin F.slot_dict_getattribute.plain F.entry_dict_ga (F.slot_dict_getattribute.check _ _ _ _ _ _ _ _ (hT _) (F.args_dict_getattribute_2 _ _) (run_ga_dict (s := ⟨hp, g, d, tk + 1, os⟩) ho ?_))
  show wpAny _ _ (handedOut _) _ _ _
  rw [PySem.W.handedOut_of (show PySem.W.handedIn (.ref _) = true from rfl)]
  exact wpAny_pure (h _)
theorem run_ga_set {P : Fin → Shared → Prop} {a : Addr} {xs : Array (Int × Value)} {k : Nat} {t : SetTable} {sl : Array (Option Value)} {u : Tok} (hx : s.heap.get? a = some { cls := .type "set", dict := none, data := .set xs k t, slots := sl })
    (h : P (.done (.ret (.ref s.heap.objs.size))) { s with heap := s.heap.push (boundObj "set.__contains__" a) }) :
    wpAny (model prog w) A (Builtin.«object.__getattribute__» ⟨[.ref a, .str "__contains__" u], []⟩) P E s := by
  obtain ⟨hp, g, d, tk, os⟩ := s
  have hT : (⟨hp, g, d, tk, os⟩ : Shared).TypeIs (.ref a) "set" := ⟨_, hx, rfl⟩
  have f4 := F.slot_set_contains.lookup
  have f5 := F.type_set_contains
  have f6 := BM.slot_get.lookup
  have f7 := BM.no_set
  have f8 := BM.no_delete
  unfold Builtin.«object.__getattribute__»
  repeat (any_goals (first | assumption | wp_step))
  exact call_get_bound (name := "__contains__") ⟨by decide +kernel, by rw [isSubtype_type]; kernel_rfl, by decide +kernel⟩ F.type_set_contains hx rfl (wpAny_pure h)
theorem getAttr_set {Q : Value → Shared → Prop} {a : Addr} {o : Obj} (ho : s.heap.get? a = some o) (hc : o.cls = .type "set") (hd : o.dict = none) (hdat : ∃ xs k t, o.data = .set xs k t)
    (h : ∀ tk, Q (.ref s.heap.objs.size) { s with heap := s.heap.push (boundObj "set.__contains__" a), toks := tk }) : wpAny (model prog w) A (getAttr (.ref a) "__contains__" true) Q E s := by
  obtain ⟨c, dct, dat, sl⟩ := o
  obtain ⟨xs, k, t, hdat⟩ := hdat
  dsimp only at hc hd hdat
  subst hc hd hdat
  obtain ⟨hp, g, d, tk, os⟩ := s
  have hT : ∀ tk', (⟨hp, g, d, tk', os⟩ : Shared).TypeIs (.ref a) "set" := fun _ => ⟨_, ho, rfl⟩
  have f3 := F.slot_set_getattribute.lookup
  have f4 := F.slot_set_getattribute.bind (.ref a)
  unfold getAttr getAttrBy
  repeat (any_goals (first | assumption | exact hT _ | wp_step))
  refine codeAny_call_builtin F.slot_set_getattribute.plain F.entry_set_ga (F.slot_set_getattribute.check _ _ _ _ _ _ _ _ (hT _) (F.args_set_getattribute_2 _ _) (run_ga_set (s := ⟨hp, g, d, tk + 1, os⟩) ho ?_))
  show wpAny _ _ (handedOut _) _ _ _
  rw [PySem.W.handedOut_of (show PySem.W.handedIn (.ref _) = true from rfl)]
  exact wpAny_pure (h _)
end
end Mine
end
section
open PySem PySem.W PySem.Calls PySem.Spec PyProof PyProof.Rows
set_option Elab.async false
namespace Mine
section
variable {prog : Program} {w : World} {A : Around} {E : Value → Shared → Prop} {s : Shared}
theorem if_not {α : Type} {M : Model} {A : Around} {E : Value → Shared → Prop} {s : Shared} {c : Bool} {a b : Sem α} {Q : α → Shared → Prop} (hc : c = false) (h : wpAny M A b Q E s) : wpAny M A (if c = true then a else b) Q E s := by
  subst hc
  exact h
theorem if_yes {α : Type} {M : Model} {A : Around} {E : Value → Shared → Prop} {s : Shared} {c : Bool} {a b : Sem α} {Q : α → Shared → Prop} (hc : c = true) (h : wpAny M A a Q E s) : wpAny M A (if c = true then a else b) Q E s := by
  subst hc
  exact h
theorem call_bound {id : String} {a q : Addr} {rest : List Value} {B : Builtin} {S : PySem.Spec} {Q : Value → Shared → Prop} (hq : s.heap.get? q = some (boundObj id a)) (hquiet : ∀ as, (Code.builtin id as).quiet = true) (entry : entryFor table id = some B)
    (chk : ∀ {A' : Around} {Q' : Unit → Shared → Prop} {E' : Value → Shared → Prop}, Q' () s → wpAny (model prog w) A' (checkBoundCall id ⟨.ref a :: rest, []⟩) Q' E' s) (hpl : plainId id = true)
    (g : MeetsIn prog w (B ⟨.ref a :: rest, []⟩) S) (h : S A (wants Q E) s) : wpAny (model prog w) A (call (.ref q) rest) Q E s := by
  refine wpAny_call (codeAny_of_tree ?_)
  show wpAny _ A.in1 (callAny (.ref q) ⟨rest, []⟩) _ _ s
  simp only [callAny]
  refine wpAny_bind (wpAny_load hq ?_)
  refine if_yes (by rfl) ?_
  refine if_yes (by rfl) ?_
  refine wpAny_bind (chk ?_)
  refine wpAny_bind (wpAny_pure (wpAny_pure ?_))
  refine ⟨hquiet _, codeAny_builtin entry ?_⟩
  rw [Around.under_plainId hpl _]
  exact g A (wants Q E) s h
theorem sub_module (T : String) (h : isSubtype (.type T) (.type "module") = pure false) {id : String} {sig : Manifest.Signature} {a : Addr} {rest : List Value} {A' : Around} {Q' : Unit → Shared → Prop} {E' : Value → Shared → Prop} {o : Obj}
    (ho : s.heap.get? a = some o) (hc : o.cls = .type T) (hnc : (match o.data with | .cls _ => true | _ => false) = false) (hsig : Manifest.signature? id = some sig) (hk : builtinKind id = some .method) (hv : Manifest.varargsMethods.contains id = false)
    (hchk : Bind.checkArgs id { sig with full := s!"{Bind.lastOf T}.{Bind.lastOf id}" } ⟨.ref a :: rest, []⟩ = pure ()) (hq : Q' () s) :
    wpAny (model prog w) A' (checkBoundCall id ⟨.ref a :: rest, []⟩) Q' E' s := by
  have hT : s.TypeIs (.ref a) T := ⟨_, ho, hc⟩
  unfold checkBoundCall
  simp only [hsig, hk]
  rw [if_neg (by decide)]
  refine wpAny_bind (wpAny_isInstance hT h ?_)
  rw [if_neg (by rw [hv]; exact Bool.false_ne_true)]
  refine wpAny_bind ?_
  unfold isType
  refine wpAny_bind (wpAny_loadPart ho ?_)
  refine wpAny_pure ?_
  refine if_not hnc ?_
  refine wpAny_bind (wpAny_typeOf hT ?_)
  dsimp only
  exact wpAny_of_eq hchk hq
theorem list_no_module : isSubtype (.type "list") (.type "module") = pure false := by rw [isSubtype_type]; kernel_rfl
theorem dict_no_module : isSubtype (.type "dict") (.type "module") = pure false := by rw [isSubtype_type]; kernel_rfl
theorem set_no_module : isSubtype (.type "set") (.type "module") = pure false := by rw [isSubtype_type]; kernel_rfl
theorem chk_append {a : Addr} {v : Value} {A' : Around} {Q' : Unit → Shared → Prop} {E' : Value → Shared → Prop} {its : Array Value} {k : Nat} (ho : s.heap.get? a = some (PySem.W.listOf its k)) (hq : Q' () s) :
    wpAny (model prog w) A' (checkBoundCall "list.append" ⟨[.ref a, v], []⟩) Q' E' s := by
  refine sub_module "list" list_no_module (sig := ⟨.oneArg, "list.append", "append", .self, [⟨"object", .posOnly, true⟩]⟩) ho rfl rfl ?_ (by decide +kernel) (by decide +kernel) ?_ hq
  · kernel_rfl
  · kernel_rfl
theorem sig_contains : Manifest.signature? "set.__contains__" = some ⟨.oneArg, "set.__contains__", "__contains__", .self, [⟨"object", .posOnly, true⟩]⟩ := by
  rw [signature?_of (id := "set.__contains__") (n := ['_', '_', 's', 'n', 'i', 'a', 't', 'n', 'o', 'c', '_', '_']) (o := ['t', 'e', 's']) (by kernel_rfl) F.owner_set]; kernel_rfl
theorem kind_contains : builtinKind "set.__contains__" = some .method := by decide +kernel
theorem var_contains : Manifest.varargsMethods.contains "set.__contains__" = false := by decide +kernel
theorem args_contains {a : Addr} {v : Value} : Bind.checkArgs "set.__contains__" { machinery := .oneArg, full := s!"{Bind.lastOf "set"}.{Bind.lastOf "set.__contains__"}", short := "__contains__", receiver := .self, params := [⟨"object", .posOnly, true⟩] } ⟨[.ref a, v], []⟩ = pure () := by kernel_rfl
theorem chk_contains {a : Addr} {v : Value} {A' : Around} {Q' : Unit → Shared → Prop} {E' : Value → Shared → Prop} {o : Obj} (ho : s.heap.get? a = some o) (hc : o.cls = .type "set") (hnc : (match o.data with | .cls _ => true | _ => false) = false) (hq : Q' () s) :
    wpAny (model prog w) A' (checkBoundCall "set.__contains__" ⟨[.ref a, v], []⟩) Q' E' s := by
  have e1 := set_no_module
  have e2 := sig_contains
  have e3 := kind_contains
  have e4 := var_contains
  generalize hid : "set.__contains__" = id at e2 e3 e4 ⊢
  refine sub_module "set" e1 ho hc hnc e2 e3 e4 ?_ hq
  subst hid
  kernel_rfl
theorem chk_get {a : Addr} {v d : Value} {A' : Around} {Q' : Unit → Shared → Prop} {E' : Value → Shared → Prop} {o : Obj} (ho : s.heap.get? a = some o) (hc : o.cls = .type "dict") (hnc : (match o.data with | .cls _ => true | _ => false) = false) (hq : Q' () s) :
    wpAny (model prog w) A' (checkBoundCall "dict.get" ⟨[.ref a, v, d], []⟩) Q' E' s := by
  refine sub_module "dict" dict_no_module (sig := ⟨.positional, "dict.get", "get", .self, [⟨"key", .posOnly, true⟩, ⟨"default", .posOnly, false⟩]⟩) ho hc hnc ?_ (by decide +kernel) (by decide +kernel) ?_ hq
  · kernel_rfl
  · kernel_rfl
theorem quiet_append (as : Args) : (Code.builtin "list.append" as).quiet = true := Code.quiet_builtin _ (by decide +kernel)
theorem quiet_contains (as : Args) : (Code.builtin "set.__contains__" as).quiet = true := Code.quiet_builtin _ (by decide +kernel)
theorem quiet_get (as : Args) : (Code.builtin "dict.get" as).quiet = true := Code.quiet_builtin _ (by decide +kernel)
theorem meets_contains {a : Addr} {x : Str} {u : Tok} : MeetsIn prog w (Builtin.«frozenset.__contains__» ⟨[.ref a, .str x u], []⟩) (fun _ R s => ∃ S n, s.heap.SetOf (strKind prog w) a S n ∧ R (.ok (.ret (.bool (S x)))) { s with toks := s.toks + 1 }) := by
  refine .of_wp fun A R s ⟨S, n, hS, h⟩ => ?_
  unfold Builtin.«frozenset.__contains__» Builtin.Frozenset.oneOther
  simp only [List.isEmpty_nil, bind_assoc]
  unfold Builtin.Frozenset.addrOf Builtin.Frozenset.withSetAsKey setContains
  refine wpAny_bind (wpAny_pure ?_)
  try dsimp only
  refine wpAny_bind (wpAny_pure ?_)
  try dsimp only
  refine wpAny_bind (wpAny_tryCatch ?_)
  refine wpAny_holding ?_
  refine wpAny_bind ((strKind prog w).pyHash (strKind_is _ _ _ _) ?_)
  refine wpAny_bind (wpAny_setFind_of (knd := strKind prog w) (s := { s with toks := s.toks + 1 }) (strKind_is _ _ _ _) rfl hS fun r hr => ?_)
  refine wpAny_pure ?_
  show wpAny _ _ (ret (Value.bool r.isSome)) _ _ _
  rw [hr]
  exact wpAny_pure ⟨_, rfl, h⟩
/-- add = res.append; add(v) -/
theorem call_bound_append {a q : Addr} {v : Value} {its : Array Value} {k : Nat} {Q : Value → Shared → Prop} (hq : s.heap.get? q = some (boundObj "list.append" a)) (ho : s.heap.get? a = some (PySem.W.listOf its k))
    (hsz : its.size ≤ sizeLine) (h : Q .none { s with heap := s.heap.update a (Obj.mapSeq fun x => x.push v) }) :
    wpAny (model prog w) A (call (.ref q) [v]) Q E s := by
  have g := (list_append a its k v hsz).inModel prog w
  exact call_bound hq quiet_append entry_list_append (fun hq' => chk_append ho hq') (by decide +kernel) g ⟨ho, h⟩
/-- isbjunk(v) -/
theorem call_bound_contains {a q : Addr} {x : Str} {u : Tok} {S : Str → Bool} {n : Nat} {Q : Value → Shared → Prop} {o : Obj} (hq : s.heap.get? q = some (boundObj "set.__contains__" a)) (ho : s.heap.get? a = some o) (hS : o.SetObjOf (strKind prog w) S n) (hn : n < scanBound)
    (h : Q (.bool (S x)) { s with toks := s.toks + 1 }) : wpAny (model prog w) A (call (.ref q) [.str x u]) Q E s := by
  have hSo := hS.setOf ho hn
  obtain ⟨hex, es, ep, t, hd, _⟩ := id hS
  have g := meets_contains (prog := prog) (w := w) (a := a) (x := x) (u := u)
  exact call_bound hq quiet_contains entry_set_contains (fun hq' => chk_contains ho hex.1 (by rw [hd]) hq') (by decide +kernel) g ⟨S, n, hSo, h⟩
/-- get(k, dflt) -/
theorem call_bound_get {a q : Addr} {i : Int} {u : Tok} {dflt : Value} {kvs : List (Int × Value)} {Q : Value → Shared → Prop} {o : Obj} (hq : s.heap.get? q = some (boundObj "dict.get" a)) (ho : s.heap.get? a = some o) (hD : o.IsDictOf (intKind prog w) kvs) (hs : (a == sysModules) = false)
    (h : Q ((valueAt kvs i).getD dflt) { s with toks := s.toks + 1 }) : wpAny (model prog w) A (call (.ref q) [.int i u, dflt]) Q E s := by
  have hm := (Heap.dictOf_iff.mpr ⟨o, ho, hD⟩ : s.heap.DictOf (intKind prog w) a kvs).mapOf
  obtain ⟨es, ep, hex, hd, _⟩ := id hD
  have g := meets_dict_get_default (intKind prog w) (k := i) (key := .int i u) a (intKind_is _ _ _ _) hs dflt
  exact call_bound hq quiet_get F.entry_dict_get (fun hq' => chk_get ho hex.1 (by rw [hd]) hq') (by decide +kernel) g ⟨_, hm, h⟩
end
end Mine
end
section
open PySem PySem.W PySem.Calls PySem.Spec PyProof PyProof.Rows
set_option Elab.async false
namespace Mine
section
variable {prog : Program} {w : World} {A : Around} {E : Value → Shared → Prop} {s : Shared} {h₀ : Heap} {L a : Addr} {m : Str → Option Value} {news : List (Addr × Obj)} {o : Obj}
theorem bound_set_K {K : Type} [DecidableEq K] [BEq K] [LawfulBEq K] {knd : KeyKind prog w K} {S : K → Bool} {n : Nat} {Q : Value → Shared → Prop} (F : Fr h₀ L s.heap m) (N : News h₀ L s.heap news) (hm : (a, o) ∈ news) (hS : o.SetObjOf knd S n)
    (h : ∀ q h' tk, Fr h₀ L h' m → News h₀ L h' ((q, boundObj "set.__contains__" a) :: news) → (∀ p ∈ news, p.1 < q) → Q (.ref q) { s with heap := h', toks := tk }) : wpAny (model prog w) A (getAttr (.ref a) "__contains__" true) Q E s := by
  obtain ⟨hex, es, ep, t, hd, _⟩ := hS
  exact getAttr_set (N _ hm).1 hex.1 hex.2.1 ⟨_, _, _, hd⟩ fun tk => h _ _ tk (F.push _) (N.push F _) fun p hp => Heap.lt_size (N p hp).1
theorem bound_dict_K {knd : KeyKind prog w Int} {kvs : List (Int × Value)} {Q : Value → Shared → Prop} (F : Fr h₀ L s.heap m) (N : News h₀ L s.heap news) (hm : (a, o) ∈ news) (hD : o.IsDictOf knd kvs)
    (h : ∀ q h' tk, Fr h₀ L h' m → News h₀ L h' ((q, boundObj "dict.get" a) :: news) → (∀ p ∈ news, p.1 < q) → Q (.ref q) { s with heap := h', toks := tk }) : wpAny (model prog w) A (getAttr (.ref a) "get" true) Q E s := by
  obtain ⟨es, ep, hex, hd, _⟩ := hD
  exact getAttr_dict (N _ hm).1 hex.1 hex.2.1 ⟨_, _, hd⟩ fun tk => h _ _ tk (F.push _) (N.push F _) fun p hp => Heap.lt_size (N p hp).1
theorem bound_list_K {its : Array Value} {k : Nat} {Q : Value → Shared → Prop} (F : Fr h₀ L s.heap m) (N : News h₀ L s.heap news) (hm : (a, W.listOf its k) ∈ news)
    (h : ∀ q h' tk, Fr h₀ L h' m → News h₀ L h' ((q, boundObj "list.append" a) :: news) → (∀ p ∈ news, p.1 < q) → Q (.ref q) { s with heap := h', toks := tk }) : wpAny (model prog w) A (getAttr (.ref a) "append" true) Q E s :=
  getAttr_list (N _ hm).1 rfl rfl ⟨_, _, rfl⟩ fun tk => h _ _ tk (F.push _) (N.push F _) fun p hp => Heap.lt_size (N p hp).1
def BoundAt (u : Addr) (id : String) (a : Addr) (h : Heap) : Prop := h.get? u = some (boundObj id a)
theorem BoundAt.of {u : Addr} {id : String} {h : Heap} (N : News h₀ L h news) (hm : (u, boundObj id a) ∈ news) : BoundAt u id a h := N.get hm
variable {M : Model}
theorem callWith_B {pos : Pos} {u : Addr} {id : String} {first : List Value} {args : List (Bool × Sem Value)} {Q : Value → Shared → Prop} (hplain : args.any (·.1) = false)
    (h : wpAny M A (evalArgs (.ref u) true args []) (fun x s₁ => BoundAt u id a s₁.heap ∧ wpAny M A (call (.ref u) (first ++ x.pos) x.kw) Q E s₁) E s) : wpAny M A (callWith pos (.ref u) first args []) Q E s := by
  unfold callWith
  refine wpAny_bind (wpAny_holding (wpAny_mono h (fun x s₁ h₁ => wpAny_bind (wpAny_standAt ?_)) fun _ _ x => x))
  obtain ⟨ho, hcall⟩ := h₁
  simp only [hplain, List.any_nil, Bool.or_false]
  refine wpAny_bind (m := keeperOf (.ref u)) ?_
  unfold keeperOf
  refine wpAny_bind (wpAny_load ho ?_)
  refine if_yes (by rfl) ?_
  refine wpAny_pure ?_
  exact wpAny_bind (wpAny_mono hcall (fun r s₂ hr => wpAny_bind (wpAny_holding (wpAny_point (wpAny_pure hr)))) fun _ _ x => x)
theorem callWith_bound {pos : Pos} {u : Addr} {id : String} {first : List Value} {env : Env} {e : Expr} {rest : List Expr} {Q : Value → Shared → Prop} (_N : News h₀ L s.heap news) (_hm : (u, boundObj id a) ∈ news)
    (h : wpAny M A (spliced (backTo pos (starEach (e :: rest) env))) (fun vs s₁ => BoundAt u id a s₁.heap ∧ wpAny M A (call (.ref u) (first ++ vs)) Q E s₁) E s)
    (he : starEach (e :: rest) env = (false, eval e env) :: starEach rest env := by rfl) (hplain : (backTo pos (starEach rest env)).any (·.1) = false := by rfl) :
    wpAny M A (callWith pos (.ref u) first (backTo pos (starEach (e :: rest) env)) []) Q E s := by
  rw [he] at h ⊢
  refine callWith_B (id := id) (a := a) (by show (false || (backTo pos (starEach rest env)).any (·.1)) = false; rw [hplain]; rfl) ?_
  exact evalArgs_plain h
end
section
variable {prog : Program} {w : World} {A : Around} {E : Value → Shared → Prop} {s : Shared} {h₀ : Heap} {L a : Addr} {m : Str → Option Value} {news : List (Addr × Obj)} {o : Obj}
theorem boundCall_append {q : Addr} {v : Value} {its : Array Value} {k : Nat} {g : Obj → List (Addr × Obj)} {Q : Value → Shared → Prop} (F : Fr h₀ L s.heap m) (N : News h₀ L s.heap news) (hq : (q, boundObj "list.append" a) ∈ news) (U : UpdF a (W.listOf its k) news g) (hsz : its.size ≤ sizeLine)
    (h : ∀ h', Fr h₀ L h' m → News h₀ L h' (g (W.listOf (its.push v) (k + 1))) → Q .none { s with heap := h' }) : wpAny (model prog w) A (call (.ref q) [v]) Q E s := by
  obtain ⟨pre, post, rfl, hg, x, y⟩ := U.split
  have hm := N (a, W.listOf its k) (List.mem_append_right _ (.head _))
  refine call_bound_append (N.get hq) hm.1 hsz ?_
  have hs : Heap.SameBut a s.heap (s.heap.update a (Obj.mapSeq fun x => x.push v)) := Heap.SameBut.update ..
  have ho' : (s.heap.update a (Obj.mapSeq fun x => x.push v)).get? a = some (W.listOf (its.push v) (k + 1)) := by
    have e := Heap.get?_update_self (Obj.mapSeq fun x => x.push v) hm.1 rfl
    have e2 : Obj.mapSeq (fun x => x.push v) (W.listOf its k) = W.listOf (its.push v) (k + 1) := by simp [Obj.mapSeq]
    rw [← e2]; exact e
  exact h _ (F.change hs hm.2.1 hm.2.2) (hg _ ▸ N.setIn x y hs ho')
theorem boundCall_contains {q : Addr} {x : Str} {u : Tok} {S : Str → Bool} {n : Nat} {Q : Value → Shared → Prop} (N : News h₀ L s.heap news) (hq : (q, boundObj "set.__contains__" a) ∈ news) (hm : (a, o) ∈ news) (hS : o.SetObjOf (strKind prog w) S n) (hn : n < scanBound)
    (h : ∀ tk, Q (.bool (S x)) { s with toks := tk }) : wpAny (model prog w) A (call (.ref q) [.str x u]) Q E s :=
  call_bound_contains (N.get hq) (N.get hm) hS hn (h _)
theorem boundCall_get {q : Addr} {i : Int} {u : Tok} {dflt : Value} {kvs : List (Int × Value)} {Q : Value → Shared → Prop} (N : News h₀ L s.heap news) (hq : (q, boundObj "dict.get" a) ∈ news) (hm : (a, o) ∈ news) (hD : o.IsDictOf (intKind prog w) kvs) (hs : (a == sysModules) = false)
    (h : ∀ tk, Q ((valueAt kvs i).getD dflt) { s with toks := tk }) : wpAny (model prog w) A (call (.ref q) [.int i u, dflt]) Q E s :=
  call_bound_get (N.get hq) (N.get hm) hD hs (h _)
end
end Mine
end
section
open PySem PySem.W PySem.Calls PySem.Spec PyProof PyProof.Rows
set_option Elab.async false
namespace Mine
/-- the longest common run that ends ahead of (i, e) and starts at alo, blo or behind -/
def sfx (x y : List Nat) (alo blo : Nat) : Nat → Nat → Nat
  | 0, _ => 0
  | _ + 1, 0 => 0
  | i + 1, e + 1 => if alo ≤ i ∧ blo ≤ e ∧ x[i]? = y[e]? then sfx x y alo blo i e + 1 else 0
structure Mt (x y : List Nat) (alo ahi blo bhi i j k : Nat) : Prop where
  a0 : alo ≤ i
  a1 : i + k ≤ ahi
  b0 : blo ≤ j
  b1 : j + k ≤ bhi
  eq : ∀ z, z < k → x[i + z]? = y[j + z]?
theorem sfx_spec (x y : List Nat) (alo blo : Nat) : ∀ (i e : Nat), alo ≤ i → blo ≤ e → alo + sfx x y alo blo i e ≤ i ∧ blo + sfx x y alo blo i e ≤ e ∧ ∀ z, z < sfx x y alo blo i e → x[i - sfx x y alo blo i e + z]? = y[e - sfx x y alo blo i e + z]?
  | 0, e, h1, h2 => by simp only [sfx]; exact ⟨by omega, by omega, fun z hz => absurd hz (Nat.not_lt_zero z)⟩
  | i + 1, 0, h1, h2 => by simp only [sfx]; exact ⟨by omega, by omega, fun z hz => absurd hz (Nat.not_lt_zero z)⟩
  | i + 1, e + 1, h1, h2 => by
    simp only [sfx]
    split
    · rename_i h
      obtain ⟨p, q, r⟩ := sfx_spec x y alo blo i e h.1 h.2.1
      refine ⟨by omega, by omega, fun z hz => ?_⟩
      rw [show i + 1 - (sfx x y alo blo i e + 1) = i - sfx x y alo blo i e by omega, show e + 1 - (sfx x y alo blo i e + 1) = e - sfx x y alo blo i e by omega]
      rcases Nat.lt_or_ge z (sfx x y alo blo i e) with h' | h'
      · exact r z h'
      · have : z = sfx x y alo blo i e := by omega
        rw [this, show i - sfx x y alo blo i e + sfx x y alo blo i e = i by omega, show e - sfx x y alo blo i e + sfx x y alo blo i e = e by omega]
        exact h.2.2
    · exact ⟨by omega, by omega, fun z hz => absurd hz (Nat.not_lt_zero z)⟩
theorem sfx_max (x y : List Nat) (alo blo : Nat) : ∀ (k i j : Nat), alo ≤ i → blo ≤ j → (∀ z, z < k → x[i + z]? = y[j + z]?) → k ≤ sfx x y alo blo (i + k) (j + k)
  | 0, i, j, _, _, _ => Nat.zero_le _
  | k + 1, i, j, h1, h2, h => by
    have ih := sfx_max x y alo blo k i j h1 h2 fun z hz => h z (by omega)
    show k + 1 ≤ sfx x y alo blo (i + k + 1) (j + k + 1)
    simp only [sfx]
    rw [if_pos ⟨by omega, by omega, h k (by omega)⟩]
    omega
structure Best (x y : List Nat) (alo ahi blo bhi : Nat) (D : Nat → Nat → Prop) (bi bj bs : Nat) : Prop where
  m : Mt x y alo ahi blo bhi bi bj bs
  d : bs = 0 ∨ D (bi + bs) (bj + bs)
  mx : ∀ i j k, Mt x y alo ahi blo bhi i j k → k = 0 ∨ D (i + k) (j + k) → k ≤ bs ∧ (k = bs → bi < i ∨ (bi = i ∧ bj ≤ j))
theorem Best.start {x y : List Nat} {alo ahi blo bhi : Nat} (h1 : alo ≤ ahi) (h2 : blo ≤ bhi) : Best x y alo ahi blo bhi (fun e _ => e ≤ alo) alo blo 0 where
  m := ⟨Nat.le_refl _, h1, Nat.le_refl _, h2, fun z hz => absurd hz (Nat.not_lt_zero z)⟩
  d := .inl rfl
  mx := fun i j k M h => by
    have a := M.a0; have b := M.b0
    refine ⟨by omega, fun _ => by omega⟩
theorem Best.skip {x y : List Nat} {alo ahi blo bhi bi bj bs : Nat} {D D' : Nat → Nat → Prop} (B : Best x y alo ahi blo bhi D bi bj bs) (h1 : ∀ p q, D p q → D' p q)
    (h2 : ∀ i j k, Mt x y alo ahi blo bhi i j k → 0 < k → D' (i + k) (j + k) → D (i + k) (j + k)) : Best x y alo ahi blo bhi D' bi bj bs where
  m := B.m
  d := B.d.imp_right (h1 _ _)
  mx := fun i j k M h => B.mx i j k M (by
    rcases Nat.eq_zero_or_pos k with hk | hk
    · exact .inl hk
    · exact .inr (h2 i j k M hk (h.resolve_left (by omega))))
theorem Best.cell {x y : List Nat} {alo ahi blo bhi bi bj bs i j : Nat} {D D' : Nat → Nat → Prop} (B : Best x y alo ahi blo bhi D bi bj bs) (hi : alo ≤ i) (hi2 : i < ahi) (hj : blo ≤ j) (hj2 : j < bhi) (he : x[i]? = y[j]?)
    (hD : ∀ p q, D p q → p < i + 1 ∨ (p = i + 1 ∧ q < j + 1)) (hD' : ∀ p q, D' p q ↔ D p q ∨ (p = i + 1 ∧ q = j + 1)) :
    (bs < sfx x y alo blo (i + 1) (j + 1) → Best x y alo ahi blo bhi D' (i + 1 - sfx x y alo blo (i + 1) (j + 1)) (j + 1 - sfx x y alo blo (i + 1) (j + 1)) (sfx x y alo blo (i + 1) (j + 1))) ∧
    (¬ bs < sfx x y alo blo (i + 1) (j + 1) → Best x y alo ahi blo bhi D' bi bj bs) := by
  obtain ⟨s1, s2, s3⟩ := sfx_spec x y alo blo (i + 1) (j + 1) (by omega) (by omega)
  have hpos : 1 ≤ sfx x y alo blo (i + 1) (j + 1) := by
    simp only [sfx]; rw [if_pos ⟨hi, hj, he⟩]; omega
  have hend : ∀ i' j' k, Mt x y alo ahi blo bhi i' j' k → i' + k = i + 1 → j' + k = j + 1 → k ≤ sfx x y alo blo (i + 1) (j + 1) := fun i' j' k M h1 h2 => by
    have := sfx_max x y alo blo k i' j' M.a0 M.b0 M.eq
    rwa [h1, h2] at this
  generalize sfx x y alo blo (i + 1) (j + 1) = s at s1 s2 s3 hpos hend ⊢
  refine ⟨fun hs => ⟨⟨by omega, by omega, by omega, by omega, s3⟩, .inr ((hD' _ _).mpr (.inr ⟨by omega, by omega⟩)), fun i' j' k M h => ?_⟩, fun hs => ⟨B.m, B.d.imp_right fun h => (hD' _ _).mpr (.inl h), fun i' j' k M h => ?_⟩⟩
  · rcases h with h | h
    · exact ⟨by omega, fun _ => by omega⟩
    · rcases (hD' _ _).mp h with h | h
      · have := (B.mx i' j' k M (.inr h)).1
        exact ⟨by omega, fun _ => by omega⟩
      · have := hend i' j' k M h.1 h.2
        exact ⟨this, fun _ => by omega⟩
  · rcases h with h | h
    · exact B.mx i' j' k M (.inl h)
    · rcases (hD' _ _).mp h with h | h
      · exact B.mx i' j' k M (.inr h)
      · have := hend i' j' k M h.1 h.2
        refine ⟨by omega, fun hk => ?_⟩
        rcases B.d with hb | hb
        · omega
        · have := hD _ _ hb
          omega
/-- what find_longest_match finds -/
def BestOf (x y : List Nat) (alo ahi blo bhi bi bj bs : Nat) : Prop :=
  Mt x y alo ahi blo bhi bi bj bs ∧ ∀ i j k, Mt x y alo ahi blo bhi i j k → k ≤ bs ∧ (k = bs → bi < i ∨ (bi = i ∧ bj ≤ j))
theorem Best.all {x y : List Nat} {alo ahi blo bhi bi bj bs : Nat} {D : Nat → Nat → Prop} (B : Best x y alo ahi blo bhi D bi bj bs) (h : ∀ p q, p ≤ ahi → D p q) : BestOf x y alo ahi blo bhi bi bj bs :=
  ⟨B.m, fun i j k M => B.mx i j k M (.inr (h _ _ M.a1))⟩
theorem BestOf.before {x y : List Nat} {alo ahi blo bhi bi bj bs : Nat} (B : BestOf x y alo ahi blo bhi bi bj bs) (h1 : alo < bi) (h2 : blo < bj) : x[bi - 1]? ≠ y[bj - 1]? := by
  intro e
  have M := B.1
  have a0 := M.a0; have a1 := M.a1; have b0 := M.b0; have b1 := M.b1
  have := (B.2 (bi - 1) (bj - 1) (bs + 1) ⟨by omega, by omega, by omega, by omega, fun z hz => by
    rcases Nat.eq_zero_or_pos z with hz0 | hz0
    · rw [hz0]; exact e
    · have := M.eq (z - 1) (by omega)
      rwa [show bi + (z - 1) = bi - 1 + z by omega, show bj + (z - 1) = bj - 1 + z by omega] at this⟩).1
  omega
theorem BestOf.behind {x y : List Nat} {alo ahi blo bhi bi bj bs : Nat} (B : BestOf x y alo ahi blo bhi bi bj bs) (h1 : bi + bs < ahi) (h2 : bj + bs < bhi) : x[bi + bs]? ≠ y[bj + bs]? := by
  intro e
  have M := B.1
  have a0 := M.a0; have a1 := M.a1; have b0 := M.b0; have b1 := M.b1
  have := (B.2 bi bj (bs + 1) ⟨by omega, by omega, by omega, by omega, fun z hz => by
    rcases Nat.lt_or_ge z bs with h | h
    · exact M.eq z h
    · have : z = bs := by omega
      rw [this]; exact e⟩).1
  omega
theorem BestOf.zero {x y : List Nat} {alo ahi blo bhi bi bj : Nat} (B : BestOf x y alo ahi blo bhi bi bj 0) : bi = alo ∧ bj = blo := by
  have M := B.1
  have a0 := M.a0; have a1 := M.a1; have b0 := M.b0; have b1 := M.b1
  have := (B.2 alo blo 0 ⟨Nat.le_refl _, by omega, Nat.le_refl _, by omega, fun z hz => absurd hz (Nat.not_lt_zero z)⟩).2 rfl
  omega
end Mine
end
section
open PySem PySem.W PySem.Calls PySem.Spec PyProof PyProof.Rows
set_option Elab.async false
namespace Mine
theorem valueAt_stored {kvs : List (Int × Value)} {k q : Int} {v : Value} : valueAt (stored kvs k v) q = if q = k then some v else valueAt kvs q := by
  unfold stored
  split
  · rename_i h
    induction kvs with
    | nil => simp at h
    | cons a r ih =>
      obtain ⟨ak, av⟩ := a
      unfold valueAt at ih ⊢
      rw [List.map_cons, List.find?_cons, List.find?_cons]
      by_cases hk : ak = k
      · subst hk
        by_cases hq : q = ak
        · subst hq; simp
        · have hq' : ¬ ak = q := fun e => hq e.symm
          simp only [if_pos, hq', hq, decide_false, if_false, Bool.false_eq_true]
          by_cases hr : (r.any fun kv => kv.1 = ak) = true
          · have := ih hr; rw [if_neg hq] at this; exact this
          · have e : r.map (fun kv => if kv.1 = ak then (kv.1, v) else kv) = r := by
              conv => rhs; rw [← List.map_id r]
              refine List.map_congr_left fun x hx => ?_
              rw [if_neg]; rfl
              intro e; exact hr (List.any_eq_true.mpr ⟨x, hx, by simp [e]⟩)
            rw [e]
      · have hr : (r.any fun kv => kv.1 = k) = true := by simpa [hk] using h
        have := ih hr
        by_cases hq : q = ak
        · subst hq; simp [hk]
        · have hq' : ¬ ak = q := fun e => hq e.symm
          simp only [hk, if_false, hq', decide_false]
          exact this
  · rename_i h
    unfold valueAt
    rw [List.find?_append]
    by_cases hq : q = k
    · subst hq
      have : kvs.find? (fun kv => decide (kv.1 = q)) = none := by
        rw [List.find?_eq_none]
        intro x hx e
        exact h (List.any_eq_true.mpr ⟨x, hx, e⟩)
      rw [this]; simp
    · have hq' : ¬ k = q := fun e => hq e.symm
      simp [hq, hq']
def DictOk (x y : List Nat) (alo blo bhi i : Nat) (kvs : List (Int × Value)) : Prop := ∀ e : Nat, e ≤ bhi → (valueAt kvs ((e : Int) - 1) = none ∧ sfx x y alo blo i e = 0) ∨ ∃ t, valueAt kvs ((e : Int) - 1) = some (.int (sfx x y alo blo i e : Nat) t)
def NewOk (x y : List Nat) (alo blo bhi i : Nat) (P : List Nat) (kvs : List (Int × Value)) : Prop :=
  ∀ e : Nat, e ≤ bhi → (valueAt kvs ((e : Int) - 1) = none ∧ ∀ p ∈ P, blo ≤ p → e ≠ p + 1) ∨ ∃ t, valueAt kvs ((e : Int) - 1) = some (.int (sfx x y alo blo (i + 1) e : Nat) t)
def Dz (i : Nat) (P : List Nat) : Nat → Nat → Prop := fun p q => p ≤ i ∨ (p = i + 1 ∧ ∃ e ∈ P, q = e + 1)
section
variable {x y : List Nat} {alo ahi blo bhi i bi bj bs p : Nat} {P : List Nat} {kvs : List (Int × Value)}
theorem NewOk.nil : NewOk x y alo blo bhi i [] [] := fun e _ => .inl ⟨rfl, fun p h => nomatch h⟩
theorem NewOk.skip (h : NewOk x y alo blo bhi i P kvs) (hp : p < blo) : NewOk x y alo blo bhi i (P ++ [p]) kvs := fun e he => by
  rcases h e he with ⟨a, b⟩ | a
  · refine .inl ⟨a, fun q hq hq2 => ?_⟩
    rcases List.mem_append.mp hq with hq | hq
    · exact b q hq hq2
    · rw [List.mem_singleton.mp hq] at hq2; omega
  · exact .inr a
theorem NewOk.store (h : NewOk x y alo blo bhi i P kvs) (t : Tok) : NewOk x y alo blo bhi i (P ++ [p]) (stored kvs (p : Int) (.int (sfx x y alo blo (i + 1) (p + 1) : Nat) t)) := fun e he => by
  rw [valueAt_stored]
  by_cases hk : (e : Int) - 1 = (p : Int)
  · rw [if_pos hk]
    have : e = p + 1 := by omega
    subst this
    exact .inr ⟨t, rfl⟩
  · rw [if_neg hk]
    rcases h e he with ⟨a, b⟩ | a
    · refine .inl ⟨a, fun q hq hq2 => ?_⟩
      rcases List.mem_append.mp hq with hq | hq
      · exact b q hq hq2
      · rw [List.mem_singleton.mp hq]; omega
    · exact .inr a
theorem NewOk.done (h : NewOk x y alo blo bhi i P kvs) (hall : ∀ e, blo ≤ e → e < bhi → x[i]? = y[e]? → e ∈ P) : DictOk x y alo blo bhi (i + 1) kvs := fun e he => by
  rcases h e he with ⟨a, b⟩ | a
  · refine .inl ⟨a, ?_⟩
    cases e with
    | zero => rfl
    | succ e =>
      simp only [sfx]
      rw [if_neg]
      rintro ⟨_, h2, h3⟩
      exact b e (hall e h2 (by omega) h3) h2 rfl
  · exact .inr a
theorem Best.row (B : Best x y alo ahi blo bhi (fun e _ => e ≤ i) bi bj bs) : Best x y alo ahi blo bhi (Dz i []) bi bj bs :=
  B.skip (fun _ _ h => .inl h) fun _ _ _ _ _ h => h.elim id fun ⟨_, _, h, _⟩ => nomatch h
theorem Best.low (B : Best x y alo ahi blo bhi (Dz i P) bi bj bs) (hp : p < blo) : Best x y alo ahi blo bhi (Dz i (P ++ [p])) bi bj bs :=
  B.skip (fun _ _ h => h.imp_right fun ⟨a, e, he, q⟩ => ⟨a, e, List.mem_append_left _ he, q⟩) fun i' j' k M hk h => by
    rcases h with h | ⟨h, e, he, q⟩
    · exact .inl h
    · rcases List.mem_append.mp he with he | he
      · exact .inr ⟨h, e, he, q⟩
      · have := M.b0
        rw [List.mem_singleton.mp he] at q; omega
theorem Best.at (B : Best x y alo ahi blo bhi (Dz i P) bi bj bs) (hi : alo ≤ i) (hi2 : i < ahi) (hj : blo ≤ p) (hj2 : p < bhi) (he : x[i]? = y[p]?) (hP : ∀ q ∈ P, q < p) :
    (bs < sfx x y alo blo (i + 1) (p + 1) → Best x y alo ahi blo bhi (Dz i (P ++ [p])) (i + 1 - sfx x y alo blo (i + 1) (p + 1)) (p + 1 - sfx x y alo blo (i + 1) (p + 1)) (sfx x y alo blo (i + 1) (p + 1))) ∧
    (¬ bs < sfx x y alo blo (i + 1) (p + 1) → Best x y alo ahi blo bhi (Dz i (P ++ [p])) bi bj bs) := by
  refine B.cell hi hi2 hj hj2 he (fun a b h => ?_) fun a b => ⟨fun h => ?_, fun h => ?_⟩
  · rcases h with h | ⟨h, e, he, q⟩
    · exact .inl (by omega)
    · have := hP e he
      exact .inr ⟨h, by omega⟩
  · rcases h with h | ⟨h, e, he, q⟩
    · exact .inl (.inl h)
    · rcases List.mem_append.mp he with he | he
      · exact .inl (.inr ⟨h, e, he, q⟩)
      · exact .inr ⟨h, by rw [List.mem_singleton.mp he] at q; exact q⟩
  · rcases h with (h | ⟨h, e, he, q⟩) | ⟨h, q⟩
    · exact .inl h
    · exact .inr ⟨h, e, List.mem_append_left _ he, q⟩
    · exact .inr ⟨h, p, List.mem_append_right _ (.head _), q⟩
theorem Best.done (B : Best x y alo ahi blo bhi (Dz i P) bi bj bs) (hall : ∀ e, blo ≤ e → e < bhi → x[i]? = y[e]? → e ∈ P) : Best x y alo ahi blo bhi (fun e _ => e ≤ i + 1) bi bj bs :=
  B.skip (fun _ _ h => h.elim (fun h => Nat.le_succ_of_le h) fun h => Nat.le_of_eq h.1) fun i' j' k M hk h => by
    have a0 := M.a0; have b0 := M.b0; have b1 := M.b1
    rcases Nat.lt_or_ge (i' + k) (i + 1) with h1 | h1
    · exact .inl (by omega)
    · have h2 : i' + k = i + 1 := by omega
      refine .inr ⟨h2, j' + k - 1, hall _ (by omega) (by omega) ?_, by omega⟩
      have := M.eq (k - 1) (by omega)
      rwa [show i' + (k - 1) = i by omega, show j' + (k - 1) = j' + k - 1 by omega] at this
end
theorem occ_mem {l : List Nat} {n c e : Nat} : e ∈ occ l n c ↔ e < n ∧ l[e]? = some c := by
  unfold occ
  rw [List.mem_filter, List.mem_range]
  simp
theorem occ_lt {l : List Nat} {n c : Nat} : (occ l n c).Pairwise (· < ·) := List.Pairwise.filter _ List.pairwise_lt_range
theorem take_lt {P : List Nat} (h : P.Pairwise (· < ·)) {z p : Nat} (hp : P[z]? = some p) : ∀ q ∈ P.take z, q < p := by
  intro q hq
  obtain ⟨k, hk, rfl⟩ := List.getElem_of_mem hq
  rw [List.length_take] at hk
  have hz : z < P.length := by
    rcases Nat.lt_or_ge z P.length with h | h
    · exact h
    · rw [List.getElem?_eq_none h] at hp; cases hp
  rw [List.getElem_take]
  rw [List.getElem?_eq_getElem hz] at hp
  cases hp
  exact List.pairwise_iff_getElem.mp h k z (by omega) hz (by omega)
theorem take_step {P : List Nat} {z p : Nat} (hp : P[z]? = some p) : P.take (z + 1) = P.take z ++ [p] := by
  rw [List.take_add_one, hp]; rfl
theorem rest_ge {P : List Nat} (h : P.Pairwise (· < ·)) {z p : Nat} (hp : P[z]? = some p) {e : Nat} (he : e ∈ P) (hlt : e < p) : e ∈ P.take z := by
  obtain ⟨k, hk, rfl⟩ := List.getElem_of_mem he
  have hz : z < P.length := by
    rcases Nat.lt_or_ge z P.length with h | h
    · exact h
    · rw [List.getElem?_eq_none h] at hp; cases hp
  rw [List.getElem?_eq_getElem hz] at hp
  cases hp
  have hkz : k < z := by
    rcases Nat.lt_or_ge k z with h' | h'
    · exact h'
    · rcases Nat.eq_or_lt_of_le h' with rfl | h'
      · omega
      · have := List.pairwise_iff_getElem.mp h z k hz hk h'; omega
  rw [List.mem_take_iff_getElem]
  exact ⟨k, by omega, rfl⟩
end Mine
end
section
open PySem PySem.W PySem.Calls PySem.Spec PyProof PyProof.Rows Builtin Builtin.ObjectAttr
set_option Elab.async false
namespace Mine
set_option linter.unusedVariables false
set_option linter.unusedSimpArgs false
set_option maxRecDepth 100000
def tupIn (K : Frag) (C : Addr) : Bool := match K.lookup C with
  | some ⟨_, _, .cls cd, sl⟩ => !cd.hasDel && (sl.toList[4]?).join == some .none && cd.mro == [.ref C, .type "tuple", .type "object"] && cd.bases == [.type "tuple"]
  | _ => false
structure TupCls (M : Model) (h : Heap) (C : Addr) : Prop where
  obj : ∃ oc od cd sl, h.get? C = some ⟨oc, od, .cls cd, sl⟩ ∧ cd.hasDel = false
  made : Looks M h (Bind.madeBy (.ref C)) none
  base : Looks M h (Bind.staticBase (.ref C)) (.type "tuple")
  sub : Looks M h (isSubtype (.ref C) (.type "tuple")) true
  typ : Looks M h (isType (.ref C)) true
theorem best_tuple : Slots.bestBase [.type "tuple"] = pure (.type "tuple") := by kernel_rfl
theorem tup_of {K : Frag} {M : Model} {h : Heap} (X : K.In h) {C : Addr} (e : tupIn K C = true) : TupCls M h C := by
  unfold tupIn at e
  split at e
  · rename_i oc od cd sl ho
    simp only [Bool.and_eq_true, Bool.not_eq_true', beq_iff_eq] at e
    obtain ⟨⟨⟨e1, e3⟩, e4⟩, e5⟩ := e
    have hc : clsIn K C = some cd := by unfold clsIn; rw [ho]
    have hcd : Looks M h (classData C) cd := looks_clsIn X hc
    have hm : Looks M h (mroOf (.ref C)) cd.mro := hcd.andThen .now
    have made : Looks M h (Bind.madeBy (.ref C)) none := by
      intro A Q E s k q
      unfold Bind.madeBy
      refine wpAny_bind (hm A _ E s k ?_)
      rw [e4, List.forIn_cons]
      refine wpAny_bind (wpAny_bind (wpAny_bind (wpAny_bind (wpAny_loadPart (k _ _ (X _ _ ho)) (wpAny_pure ?_)))))
      dsimp only
      rw [← Array.getElem?_toList, e3]
      exact wpAny_pure (wpAny_pure (wpAny_pure q))
    refine ⟨⟨oc, od, cd, sl, X _ _ ho, e1⟩, made, ?_, looks_mroIn X ?_, ?_⟩
    · intro A Q E s k q
      unfold Bind.staticBase
      refine wpAny_bind (hm A _ E s k ?_)
      rw [e4, List.forIn_cons]
      refine wpAny_bind (wpAny_bind (wpAny_bind (made A _ E s k ?_)))
      dsimp only
      rw [if_neg (by decide)]
      refine wpAny_bind (hcd A _ E s k ?_)
      rw [e5]
      refine wpAny_bind (wpAny_of_eq best_tuple (wpAny_pure ?_))
      dsimp only
      rw [List.forIn_cons]
      refine wpAny_bind (wpAny_bind (wpAny_of_eq PySem.F.called_tuple.made ?_))
      dsimp only
      rw [if_pos (by decide)]
      exact wpAny_pure (wpAny_pure (wpAny_pure q))
    · unfold mroIn; rw [hc, Option.bind_some, e4]; rfl
    · exact (Looks.ld (X _ _ ho)).andThen .now
  · cases e
theorem tn_kind : builtinKind "tuple.__new__" = some .builtinFn := by decide +kernel
theorem tn_split : splitId "tuple.__new__" = some ("tuple", "__new__") := by decide +kernel
theorem tn_row : Manifest.signature? "tuple.__new__" = some ⟨.constructor, "tuple", "tuple", .cls, [⟨"iterable", .posOnly, false⟩]⟩ := by kernel_rfl
theorem tn_args (a b : Value) : Bind.checkArgs "tuple.__new__" ⟨.constructor, "tuple", "tuple", .cls, [⟨"iterable", .posOnly, false⟩]⟩ ⟨[a, b], []⟩ = pure () := by kernel_rfl
theorem tn_quiet (as : Args) : (Code.builtin "tuple.__new__" as).quiet = true := Code.quiet_builtin _ (by decide +kernel)
theorem tn_plain : plainId "tuple.__new__" = true := by decide +kernel
set_option maxHeartbeats 4000000 in
theorem tuple_new_sub {prog : Program} {w : World} {A : Around} {E : Value → Shared → Prop} {h : Heap} {g : Array GenState} {d : Drawn} {t : Nat} {os : OsState} {C it : Addr} {o : Obj} {items : Array Value} {n : Nat} {Tn : String} {Q : Value → Shared → Prop} (Y : TupCls (model prog w) h C) (hinit : Looks (model prog w) h (typeLookup (.ref C) "__init__") (some (.builtin "object.__init__")))
    (hT : Tn = "list" ∨ Tn = "tuple") (ho : h.get? it = some o) (hc : o.cls = .type Tn) (hd : o.data = .seq items n) (hsz : items.size ≤ 100)
    (hq : ∀ h' dx r, h.StaysIn h' → dx < r → h.get? dx = none → h.get? r = none → h'.get? dx = some { cls := .type "dict", data := .dict #[] } → h'.get? r = some { cls := .ref C, dict := some dx, data := .seq items 0 } → Q (.ref r) ⟨h', g, d, t, os⟩) :
    wpAny (model prog w) A (call (.builtin "tuple.__new__") [.ref C, .ref it]) Q E ⟨h, g, d, t, os⟩ := by
  obtain ⟨⟨oc, od, cd, sl, hC, e1⟩, made, base, sub, typ⟩ := Y
  have mt : Looks (model prog w) h (Bind.madeBy (.type "tuple")) (some "tuple.__new__") := Looks.of_pure PySem.F.called_tuple.made
  have here : Looks (model prog w) h (Bind.madeHere "tuple.__new__" (.ref C)) () := base.andThen (mt.andThen (Looks.of_pure (by simp only [Option.map_some, bne_self_eq_false, Bool.false_eq_true, if_false])))
  refine wpAny_call (codeAny_call_builtin_code (tn_quiet _) ?_)
  simp only [checkBuiltinCall, tn_kind, tn_split, tn_row]
  rw [tn_args]
  repeat (first | simp only [bne_self_eq_false, Bool.false_eq_true, if_false] | lk)
  refine codeAny_builtin PySem.F.entry_tuple_new ?_
  rw [Around.under_plainId tn_plain _]
  unfold Builtin.«tuple.__new__»
  repeat (first | simp only [bne_self_eq_false, Bool.false_eq_true, if_false, Bool.not_true, beq_self_eq_true, if_true] | (with_reducible refine wpAny_collect_seq (s := ⟨h, g, d, t, os⟩) it hT ho hc hd (fun h1 hk1 => ?_) ?_) | lk)
  · rw [if_neg (by simp only [Array.toArray_toList]; rw [sizeLine_eq]; omega)]
    rw [Array.toArray_toList]
    have hC1 := hk1 _ _ hC
    unfold newObjAsIs classHasDel
    refine wpAny_bind (wpAny_alloc (wpAny_bind (wpAny_bind (wpAny_load (Heap.get?_push_of_some _ (Heap.get?_push_of_some _ hC1)) (wpAny_pure ?_)))))
    rw [e1]
    refine wpAny_pure (wpAny_pure ?_)
    refine hq _ h1.objs.size (h1.push { cls := .type "dict", data := .dict #[] }).objs.size (fun b ob e => Heap.get?_push_of_some _ (Heap.get?_push_of_some _ (hk1 _ _ e))) (by rw [Heap.size_push]; exact Nat.lt_succ_self _) ?_ ?_ (Heap.get?_push_of_some _ (Heap.get?_push_size _ rfl)) (Heap.get?_push_size _ rfl)
    · cases e : h.get? h1.objs.size with
      | none => rfl
      | some ob => exact absurd (Heap.lt_size (hk1 _ _ e)) (Nat.lt_irrefl _)
    · cases e : h.get? (h1.push { cls := .type "dict", data := .dict #[] }).objs.size with
      | none => rfl
      | some ob => exact absurd (Heap.lt_size (hk1 _ _ e)) (by rw [Heap.size_push]; exact Nat.not_lt.mpr (Nat.le_succ _))
  · rw [sizeLine_eq]; omega
end Mine
end
section
open PySem PySem.W PySem.Calls PySem.Spec PyProof PyProof.Rows Builtin Builtin.ObjectAttr
set_option Elab.async false
namespace Mine
set_option linter.unusedVariables false
local macro_rules | `(tactic| walk_at "pyIter ref") => `(tactic| (refine stop_of ?_))
local macro_rules | `(tactic| walk_at "call ref") => `(tactic| (refine stop_of ?_))
local macro_rules | `(tactic| k_steps) => `(tactic| repeat' (first | (k_unfold; (try dsimp only)) | walk1 | (dsimp only; walk1) | (leave1; (try dsimp only)) | fail "no step"))
local macro_rules | `(tactic| walk_at "exec While Compare cons nil") => `(tactic| ((fail_if_success (rename Go => hgo)); refine stop_of ?_))
set_option hygiene false in
local macro_rules | `(tactic| walk_at "FRAME") => `(tactic| (intro y; (try dsimp only); (repeat (refine fr_step (fun hy => (by first | exact absurd hy (by assumption) | (subst hy; first | rfl | kernel_rfl))) fun hy => ?_)); (repeat (first | refine fr_last (by assumption) ?_ | refine fr_rstep (fun hy => (by subst hy; first | rfl | kernel_rfl)) fun hy => ?_)); (try rfl)))
set_option hygiene false in
local macro_rules | `(tactic| walk_at "PUR") => `(tactic| (k_dflt (refine' pur_intro (by omega) ?k6 ?k7 ?k9 ?kB ?_ ?c2 ?c3 ?c4 ?c5; (case k6 => k_is); (case k7 => k_is); (case k9 => (intro _ Xb; first | exact BindsTo.of_eq rfl | exact binds_K (by k_in) rfl (by k_is) rfl rfl rfl)); (case c5 => decide); (case kB => exact locs rfl); (case c2 => exact rfl); (case c3 => exact rfl); (case c4 => exact rfl)); k_whole; intro dp un gd env outer base mean mg mb s E L' h₁ tk hd hu hP F1 N2 B X T; (try dsimp only); (try k_fold)))
set_option hygiene false in
local macro_rules | `(tactic| walk_at "ROOM") => `(tactic| (first | omega | (simp only [Around.deeper, topE]; omega)))
set_option hygiene false in
local macro_rules | `(tactic| walk_at "SITE") => `(tactic| (refine ⟨rfl, by assumption, _, _, _, _, _, _, _, rfl, rfl, rfl, B, X, T⟩))
local macro_rules | `(tactic| walk_at "binaryOp Add ref ref") => `(tactic| (refine stop_of ?_))
set_option hygiene false in
local macro_rules | `(tactic| walk_at "SUB") => `(tactic| (intro p hp; (try simp only [List.mem_cons, List.mem_append, List.not_mem_nil, or_false, false_or] at hp ⊢); (repeat' (refine Or.elim hp (fun hp => ?_) fun hp => ?_)); (all_goals (simp only [hp, true_or, or_true]))))
local macro_rules | `(tactic| walk_at "binaryOp Add str str") => `(tactic| ((refine PyProof.Rows.add_str (hsz := ?hsz) ?_); (case hsz => (first | (simp only [Str.length_append, sizeLine_eq]; omega) | size_fits)); intro _ _))
local macro_rules | `(tactic| k_all) => `(tactic| (refine allLt_ne (by assumption) ?_; omega))
local macro_rules | `(tactic| k_all) => `(tactic| with_reducible assumption)
set_option hygiene false in
local macro_rules | `(tactic| walk_at "PURC") => `(tactic| (k_dflt (refine' pur_introC (by omega) ?k6 ?k7 ?k9 ?kB ?kD ?_ ?c2 ?c3 ?c4; (case k6 => k_is); (case k7 => k_is); (case k9 => (intro _ Xb; first | exact BindsTo.of_eq rfl | exact binds_K (by k_in) rfl (by k_is) rfl rfl rfl)); (case kB => exact rfl); (case kD => decide +kernel); (case c2 => exact rfl); (case c3 => exact rfl); (case c4 => exact rfl)); k_whole; intro dp un gd env outer base mean mg mb s E L' h₁ tk cells hd hu hP F1 N2 Y2 B X T; k_cells Y2; (try simp only [List.cons_append, List.nil_append] at N2); (try dsimp only); (try k_fold)))
local macro_rules | `(tactic| walk_at "compareOp Is str ref") => `(tactic| (refine wpAny_is_other (by rfl) (by intro x; cases x) ?_))
local macro_rules | `(tactic| walk_at "exec For Name Name cons nil") => `(tactic| (refine stop_of ?_))
set_option hygiene false in
local macro_rules | `(tactic| walk_at "OWN") => `(tactic| (k_dflt (refine' own_intro (by omega) ?k6 ?k7 ?k9 ?kB ?_ ?c2 ?c3 ?c4 ?c5; (case k6 => k_is); (case k7 => k_is); (case k9 => (intro _ Xb; first | exact BindsTo.of_eq rfl | exact binds_K (by k_in) rfl (by k_is) rfl rfl rfl)); (case c5 => decide); (case kB => exact locs rfl); (case c2 => exact rfl); (case c3 => exact rfl); (case c4 => exact rfl)); k_whole; intro dp un gd env outer base mean mg mb s E L' h₁ tk hd hu hP F1 N2 B X T; (try dsimp only); (try k_fold)))
set_option hygiene false in
local macro_rules | `(tactic| walk_at "CLS") => `(tactic| (k_dflt (refine' cls_intro (by omega) ?kh ?ki ?kj ?km ?k6 ?k7 ?k9 ?kB ?_ ?c2 ?c3 ?c4 ?c5; (case km => walk_at "MONO"); (case kh => k_is); (case ki => k_is); (case kj => k_is); (case k6 => k_is); (case k7 => k_is); (case k9 => (intro _ _ Xb; first | exact BindsTo.of_eq rfl | exact binds_K (by k_in) rfl (by k_is) rfl rfl rfl)); (case c5 => decide); (case kB => (intro _; exact locs rfl)); (case c2 => exact rfl); (case c3 => exact rfl); (case c4 => exact rfl)); k_whole; intro dp un gd env outer base mean mg mb s E L' h₁ tk xI dI hd hu lI F1 N2 B X T; (try dsimp only); (try k_fold)))
set_option hygiene false in
local macro_rules | `(tactic| walk_at "ENTER") => `(tactic| (refine' code_def ?k1 ?k2 ?k3 ?k4 ?k5 ?kA ?kF ?kK ?k6 ?k7 ?k8 ?k9 ?kB ?_ ?c2 ?c3 ?c4 ?c5; (case kA => exact rfl); (case kF => exact rfl); (case kK => exact rfl); (case k1 => k_asm); (case k2 => k_asm); (case k3 => k_asm); (case k4 => k_asm); (case k5 => k_asm); (case k6 => k_is); (case k7 => k_is); (case k8 => (simp only [depth_under_make, depth_under_kw, depth_in1, depth_deeper, depth_caller, topE]; omega)); (case k9 => first | exact BindsTo.of_eq rfl | exact binds_K (by k_in) rfl (by k_is) rfl rfl rfl | fail "k_enter: no rule for these arguments"); (case c5 => decide); (case kB => exact locs rfl); (case c2 => exact rfl); (case c3 => exact rfl); (case c4 => exact rfl); k_whole; intro g' L2' h' FG' F' N' B' X' T'; (try dsimp only); (try k_lift B'); (try k_fold)))
local macro_rules | `(tactic| walk_at "getMethod type:tuple") => `(tactic| (k_here; refine' method_type ?F ?X ?m (by decide +kernel) ?e ?h ?_; (case F => k_asm); (case X => k_asm); (case m => (first | rfl | kernel_rfl)); (case e => k_dflt k_is); (case h => k_handed)))
abbrev matchObj (a b c : Value) (d : Addr) : Obj := { cls := .ref 206, dict := some d, data := .seq #[a, b, c] 0 }
def newsIn (K : Frag) (C : Addr) : Bool := match K.lookup C with
  | some ⟨_, _, .cls cd, sl⟩ => !cd.abstract && !cd.hasDel && (sl.toList[4]?).join == some .none && !cd.mro.isEmpty && cd.mro.contains (.ref C) && cd.mro.contains (.type "object") &&
      specialIn K (.ref C) "__call__" == some (some (.builtin "type.__call__")) && instIn K (.ref C) (.type "type") == some true
  | _ => false
structure News2 (M : Model) (h : Heap) (C : Addr) : Prop where
  obj : ∃ oc od cd sl, h.get? C = some ⟨oc, od, .cls cd, sl⟩ ∧ cd.abstract = false ∧ cd.hasDel = false ∧ cd.mro.isEmpty = false
  made : Looks M h (Bind.madeBy (.ref C)) none
  self : Looks M h (isSubtype (.ref C) (.ref C)) true
  top : Looks M h (isSubtype (.ref C) (.type "object")) true
  call : Looks M h (specialOf (.ref C) "__call__") (some (.builtin "type.__call__"))
  typ : Looks M h (isInstance (.ref C) (.type "type")) true
theorem news_of {K : Frag} {M : Model} {h : Heap} (X : K.In h) {C : Addr} (e : newsIn K C = true) : News2 M h C := by
  unfold newsIn at e
  split at e
  · rename_i oc od cd sl ho
    simp only [Bool.and_eq_true, Bool.not_eq_true', beq_iff_eq] at e
    obtain ⟨⟨⟨⟨⟨⟨⟨e1, e2⟩, e3⟩, e4⟩, e5⟩, e6⟩, e7⟩, e8⟩ := e
    have hc : clsIn K C = some cd := by unfold clsIn; rw [ho]
    have hm : Looks M h (mroOf (.ref C)) cd.mro := (looks_clsIn X hc).andThen .now
    obtain ⟨c, l, hl⟩ : ∃ c l, cd.mro = c :: l := by cases q : cd.mro with | nil => rw [q] at e4; cases e4 | cons c l => exact ⟨c, l, rfl⟩
    have made : Looks M h (Bind.madeBy (.ref C)) none := by
      intro A Q E s k q
      unfold Bind.madeBy
      refine wpAny_bind (hm A _ E s k ?_)
      rw [hl, List.forIn_cons]
      refine wpAny_bind (wpAny_bind (wpAny_bind (wpAny_bind (wpAny_loadPart (k _ _ (X _ _ ho)) (wpAny_pure ?_)))))
      dsimp only
      rw [← Array.getElem?_toList, e3]
      exact wpAny_pure (wpAny_pure (wpAny_pure q))
    refine ⟨⟨oc, od, cd, sl, X _ _ ho, e1, e2, e4⟩, made, looks_mroIn X ?_, looks_mroIn X ?_, looks_specialIn X e7, looks_instIn X e8⟩
    · unfold mroIn; rw [hc, Option.bind_some, if_neg (by rw [e4]; decide), e5]
    · unfold mroIn; rw [hc, Option.bind_some, if_neg (by rw [e4]; decide), e6]
  · cases e
theorem oi_args4 (x a b c : Value) : argsOk "object.__init__" ⟨[x, a, b, c], []⟩ := by unfold argsOk; kernel_rfl
set_option maxHeartbeats 4000000 in
theorem class_new {prog : Program} {w : World} {A : Around} {R : Result → Shared → Prop} {h : Heap} {g : Array GenState} {d : Drawn} {t : Nat} {os : OsState} {C fN : Addr} {a1 a2 a3 : Value} (Y : News2 (model prog w) h C) (hinit : Looks (model prog w) h (typeLookup (.ref C) "__init__") (some (.builtin "object.__init__")))
    (hget : ∀ {A' : Around} {Q : Value → Shared → Prop} {E : Value → Shared → Prop}, (∀ tk, Q (.ref fN) ⟨h, g, d, tk, os⟩) → wpAny (model prog w) A' (getAttr (.ref C) "__new__") Q E ⟨h, g, d, t, os⟩)
    (hq : ∀ tk, wpAny (model prog w) (A.under (.builtin "type.__call__" ⟨.ref C :: [a1, a2, a3], []⟩)) (PySem.call (.ref fN) (.ref C :: [a1, a2, a3]) []) (fun v s' => ∃ x o, v = .ref x ∧ s'.heap.get? x = some o ∧ o.cls = .ref C ∧ h.StaysIn s'.heap ∧ R (.ok (.ret v)) s')
      (fun e s' => R (.error e) s') ⟨h, g, d, tk, os⟩) :
    codeAny (model prog w) A (.call (.ref C) ⟨[a1, a2, a3], []⟩) R ⟨h, g, d, t, os⟩ := by
  obtain ⟨⟨oc, od, cd, sl, hC, e1, e2, e4⟩, made, self, top, call, typ⟩ := Y
  refine codeAny_of_tree ?_
  show wpAny _ _ (callAny (.ref C) _) _ _ _
  refine nd_load hC ?_
  show wpAny _ _ (callAny.viaDunder (.ref C) _) _ _ _
  unfold callAny.viaDunder
  refine wpAny_bind (call.at ?_)
  dsimp only
  rw [tc_bind]
  refine wpAny_bind (wpAny_pure (wpAny_bind (wpAny_pure ?_)))
  refine wpAny_pure (a := Fin.again (.call (.builtin "type.__call__") ⟨.ref C :: [a1, a2, a3], []⟩)) (And.intro rfl ?_)
  refine codeAny_call_builtin_at (Code.quiet_builtin _ (by decide +kernel)) entry_typeCall (check_slot tc_kind tc_split typ (tc_args _ _ _) ?_)
  unfold Builtin.«type.__call__»
  have hm : Looks (model prog w) h (mroOf (.ref C)) cd.mro := ((Looks.ld (part := none) hC).andThen .now).andThen .now
  repeat (first | simp only [e4, Bool.false_eq_true, if_false] | with_reducible refine hget (fun tk => ?_) | with_reducible refine wpAny_mono (hq _) (fun v s' z => Stop.h ?_) (fun e s' z => z) | lk)
  refine Stop.mk ?_
  obtain ⟨x, o, rfl, ho, hc, hst, hR⟩ := z
  have t1 : Looks (model prog w) s'.heap (typeOf (.ref x)) (.ref C) := hc ▸ (Looks.ld ho).andThen .now
  have s1 := self.keeps hst
  have i1 := hinit.keeps hst
  have m1 := made.keeps hst
  have t2 : Looks (model prog w) s'.heap (isInstance (.ref x) (.type "object")) true := t1.andThen (top.keeps hst)
  have b1 : Looks (model prog w) s'.heap (bindSpecial (.builtin "object.__init__") (.ref x)) (.builtin "object.__init__", [.ref x]) := Looks.of_pure (oi_bind _)
  obtain ⟨hp', g', d', t', os'⟩ := s'
  unfold isInstance callSpecial? specialOf
  repeat (first | simp only [Bool.not_true, Bool.false_eq_true, if_false] | with_reducible refine wpAny_call ?_ | lk)
  refine codeAny_call_builtin oi_plain entry_oi (check_slot oi_kind oi_split t2 (oi_args4 _ _ _ _) ?_)
  unfold Builtin.«object.__init__»
  repeat (first | simp only [Bool.not_true, Bool.false_eq_true, if_false] | lk)
  exact hR
def NewR (a b c : Value) (h : Heap) (v : Value) (h' : Heap) : Prop := ∃ r dx, v = .ref r ∧ dx < r ∧ NewIn h h' [(r, matchObj a b c dx), (dx, { cls := .type "dict", data := .dict #[] })]
set_option maxRecDepth 100000 in
set_option maxHeartbeats 4000000 in
theorem t_new (w : World) : PySem.Challenge.rw_ik0097_01 = PySem.Challenge.rw_ik0097_01 → Kx = Kx → ∀ (a b c : Value),
    Pur w 153 [.ref 206, a, b, c] 3 60 (fun _ => True) (NewR a b c) := by
  k_fill
  intro _ _ a b c
  walk_at "PUR"
  have F2 := fr_as F1 (m' := fun (y : Str) => List.lookup y [("size", c), ("b", b), ("a", a), ("_cls", Value.ref 206)]) (by intro y; kernel_rfl)
  clear F1
  simp only [lk_cons, lk_nil] at F2
  have hY : tupIn (Kx w.params) 206 = true := by kernel_rfl
  have hi : findIn (Kx w.params) (.ref 206) "__init__" = some (some (.builtin "object.__init__")) := by k_dflt k_is
  k_steps
  (rename Fr s.heap L' _ _ => F9)
  (rename News s.heap L' _ _ => N9)
  have X9 := X.keeps F9.keep
  refine tuple_new_sub (tup_of X9 hY) (looks_findIn X9 hi) (.inr rfl) (N9 _ (.head _)).1 rfl rfl (by show (3 : Nat) ≤ 100; decide) ?_
  intro h' dx r hst hlt n1 n2 g1 g2
  refine PEnd.intro (F9.keeps hst) ⟨r, dx, rfl, hlt, ?_⟩
  intro p hp
  have stn : ∀ (q : Addr) (hh : Heap), (∀ b o, s.heap.get? b = some o → hh.get? b = some o) → hh.get? q = none → s.heap.get? q = none := fun q hh hk hq => by
    cases e : s.heap.get? q with
    | none => rfl
    | some o => have := hk _ _ e; rw [hq] at this; cases this
  rcases List.mem_cons.mp hp with rfl | hp
  · exact ⟨stn _ _ F9.keep n2, g2⟩
  · rw [List.mem_singleton.mp hp]; exact ⟨stn _ _ F9.keep n1, g1⟩
set_option maxRecDepth 100000 in
set_option maxHeartbeats 4000000 in
theorem t_match (w : World) : PySem.Challenge.rw_ik0097_01 = PySem.Challenge.rw_ik0097_01 → Kx = Kx → ∀ (a b c : Value),
    Pur w 206 [a, b, c] 5 80 (fun _ => True) (NewR a b c) := by
  k_fill
  intro _ _ a b c A h₀ L m s Q E S hd hu _ hret
  obtain ⟨hh, F, env, outer, A₀, base, mean, mg, mb, hA, hf', hke, B, X, T⟩ := S
  obtain ⟨hd', dp, fr, gd, un⟩ := A
  dsimp only at hh hA hd hu
  subst hh
  subst hA
  obtain ⟨hp, gn, dr, tk, os⟩ := s
  have Xs := X.keeps F.keep
  have e1 : newsIn (Kx w.params) 206 = true := by kernel_rfl
  have e2 : findIn (Kx w.params) (.ref 206) "__init__" = some (some (.builtin "object.__init__")) := by k_dflt k_is
  refine wpAny_call (class_new (fN := 153) (R := fun r s' => match r with | .ok (.ret v) => Q v s' | .ok _ => False | .error e => E e s') (news_of Xs e1) (looks_findIn Xs e2) (fun hQ => ?_) (fun tk' => ?_))
  · k_dflt (refine' cls_sm F X ?k3 ?k4 ?k5 ?k6 ?k7 ?_; (case k3 => k_is); (case k4 => k_is); (case k5 => k_is); (case k6 => k_is); (case k7 => k_handed))
    exact hQ _
  · refine t_new w rfl rfl a b c _ h₀ L m ⟨hp, gn, dr, tk', os⟩ _ _ ⟨rfl, F, env, outer, A₀, base, mean, mg, mb, rfl, hf', hke, B, X, T⟩ (show dp + 1 + 3 < recursionLimit by omega) (show un + 1 + 60 < cLine by omega) trivial (fun r h' tk'' hs hr => ?_)
    obtain ⟨x, dx, rfl, hlt, hn⟩ := id hr
    exact ⟨x, _, rfl, (hn _ (.head _)).2, rfl, hs, hret _ h' tk'' hs hr⟩
end Mine
end
section
open PySem PySem.W PySem.Calls PySem.Spec PyProof PyProof.Rows
set_option Elab.async false
namespace Mine
set_option linter.unusedVariables false
local macro_rules | `(tactic| walk_at "pyIter ref") => `(tactic| (refine stop_of ?_))
local macro_rules | `(tactic| walk_at "call ref") => `(tactic| (refine stop_of ?_))
local macro_rules | `(tactic| k_steps) => `(tactic| repeat' (first | (k_unfold; (try dsimp only)) | walk1 | (dsimp only; walk1) | (leave1; (try dsimp only)) | fail "no step"))
local macro_rules | `(tactic| walk_at "exec While Compare cons nil") => `(tactic| ((fail_if_success (rename Go => hgo)); refine stop_of ?_))
set_option hygiene false in
local macro_rules | `(tactic| walk_at "FRAME") => `(tactic| (intro y; (try dsimp only); (repeat (refine fr_step (fun hy => (by first | exact absurd hy (by assumption) | (subst hy; first | rfl | kernel_rfl))) fun hy => ?_)); (repeat (first | refine fr_last (by assumption) ?_ | refine fr_rstep (fun hy => (by subst hy; first | rfl | kernel_rfl)) fun hy => ?_)); (try rfl)))
set_option hygiene false in
local macro_rules | `(tactic| walk_at "PUR") => `(tactic| (k_dflt (refine' pur_intro (by omega) ?k6 ?k7 ?k9 ?kB ?_ ?c2 ?c3 ?c4 ?c5; (case k6 => k_is); (case k7 => k_is); (case k9 => (intro _ Xb; first | exact BindsTo.of_eq rfl | exact binds_K (by k_in) rfl (by k_is) rfl rfl rfl)); (case c5 => decide); (case kB => exact locs rfl); (case c2 => exact rfl); (case c3 => exact rfl); (case c4 => exact rfl)); k_whole; intro dp un gd env outer base mean mg mb s E L' h₁ tk hd hu hP F1 N2 B X T; (try dsimp only); (try k_fold)))
set_option hygiene false in
local macro_rules | `(tactic| walk_at "ROOM") => `(tactic| (first | omega | (simp only [Around.deeper, topE]; omega)))
set_option hygiene false in
local macro_rules | `(tactic| walk_at "SITE") => `(tactic| (refine ⟨rfl, by assumption, _, _, _, _, _, _, _, rfl, rfl, rfl, B, X, T⟩))
local macro_rules | `(tactic| walk_at "binaryOp Add ref ref") => `(tactic| (refine stop_of ?_))
set_option hygiene false in
local macro_rules | `(tactic| walk_at "SUB") => `(tactic| (intro p hp; (try simp only [List.mem_cons, List.mem_append, List.not_mem_nil, or_false, false_or] at hp ⊢); (repeat' (refine Or.elim hp (fun hp => ?_) fun hp => ?_)); (all_goals (simp only [hp, true_or, or_true]))))
local macro_rules | `(tactic| walk_at "binaryOp Add str str") => `(tactic| ((refine PyProof.Rows.add_str (hsz := ?hsz) ?_); (case hsz => (first | (simp only [Str.length_append, sizeLine_eq]; omega) | size_fits)); intro _ _))
local macro_rules | `(tactic| k_all) => `(tactic| (refine allLt_ne (by assumption) ?_; omega))
local macro_rules | `(tactic| k_all) => `(tactic| with_reducible assumption)
set_option hygiene false in
local macro_rules | `(tactic| walk_at "PURC") => `(tactic| (k_dflt (refine' pur_introC (by omega) ?k6 ?k7 ?k9 ?kB ?kD ?_ ?c2 ?c3 ?c4; (case k6 => k_is); (case k7 => k_is); (case k9 => (intro _ Xb; first | exact BindsTo.of_eq rfl | exact binds_K (by k_in) rfl (by k_is) rfl rfl rfl)); (case kB => exact rfl); (case kD => decide +kernel); (case c2 => exact rfl); (case c3 => exact rfl); (case c4 => exact rfl)); k_whole; intro dp un gd env outer base mean mg mb s E L' h₁ tk cells hd hu hP F1 N2 Y2 B X T; k_cells Y2; (try simp only [List.cons_append, List.nil_append] at N2); (try dsimp only); (try k_fold)))
local macro_rules | `(tactic| walk_at "compareOp Is str ref") => `(tactic| (refine wpAny_is_other (by rfl) (by intro x; cases x) ?_))
local macro_rules | `(tactic| walk_at "exec For Name Name cons nil") => `(tactic| (refine stop_of ?_))
set_option hygiene false in
local macro_rules | `(tactic| walk_at "OWN") => `(tactic| (k_dflt (refine' own_intro (by omega) ?k6 ?k7 ?k9 ?kB ?_ ?c2 ?c3 ?c4 ?c5; (case k6 => k_is); (case k7 => k_is); (case k9 => (intro _ Xb; first | exact BindsTo.of_eq rfl | exact binds_K (by k_in) rfl (by k_is) rfl rfl rfl)); (case c5 => decide); (case kB => exact locs rfl); (case c2 => exact rfl); (case c3 => exact rfl); (case c4 => exact rfl)); k_whole; intro dp un gd env outer base mean mg mb s E L' h₁ tk hd hu hP F1 N2 B X T; (try dsimp only); (try k_fold)))
set_option hygiene false in
local macro_rules | `(tactic| walk_at "CLS") => `(tactic| (k_dflt (refine' cls_intro (by omega) ?kh ?ki ?kj ?km ?k6 ?k7 ?k9 ?kB ?_ ?c2 ?c3 ?c4 ?c5; (case km => walk_at "MONO"); (case kh => k_is); (case ki => k_is); (case kj => k_is); (case k6 => k_is); (case k7 => k_is); (case k9 => (intro _ _ Xb; first | exact BindsTo.of_eq rfl | exact binds_K (by k_in) rfl (by k_is) rfl rfl rfl)); (case c5 => decide); (case kB => (intro _; exact locs rfl)); (case c2 => exact rfl); (case c3 => exact rfl); (case c4 => exact rfl)); k_whole; intro dp un gd env outer base mean mg mb s E L' h₁ tk xI dI hd hu lI F1 N2 B X T; (try dsimp only); (try k_fold)))
set_option hygiene false in
local macro_rules | `(tactic| walk_at "ENTER") => `(tactic| (refine' code_def ?k1 ?k2 ?k3 ?k4 ?k5 ?kA ?kF ?kK ?k6 ?k7 ?k8 ?k9 ?kB ?_ ?c2 ?c3 ?c4 ?c5; (case kA => exact rfl); (case kF => exact rfl); (case kK => exact rfl); (case k1 => k_asm); (case k2 => k_asm); (case k3 => k_asm); (case k4 => k_asm); (case k5 => k_asm); (case k6 => k_is); (case k7 => k_is); (case k8 => (simp only [depth_under_make, depth_under_kw, depth_in1, depth_deeper, depth_caller, topE]; omega)); (case k9 => first | exact BindsTo.of_eq rfl | exact binds_K (by k_in) rfl (by k_is) rfl rfl rfl | fail "k_enter: no rule for these arguments"); (case c5 => decide); (case kB => exact locs rfl); (case c2 => exact rfl); (case c3 => exact rfl); (case c4 => exact rfl); k_whole; intro g' L2' h' FG' F' N' B' X' T'; (try dsimp only); (try k_lift B'); (try k_fold)))
set_option hygiene false in
local macro_rules | `(tactic| walk_at "getAttr ref") => `(tactic| (k_here; (with_reducible show wpAny _ _ (getAttr (Value.ref _) (PySem.Str.ofString "__contains__") true) _ _ _); k_dflt (refine' bound_set_K (knd := PySem.strKind _ _) ?F ?N ?m ?S ?_; (case F => k_asm); (case N => k_asm); (case m => k_mem); (case S => k_asm)); intro qS' h' tk' F' N' lB'; (try k_lt lB')))
set_option hygiene false in
local macro_rules | `(tactic| walk_at "getAttr ref") => `(tactic| (k_here; (with_reducible show wpAny _ _ (getAttr (Value.ref _) (PySem.Str.ofString "get") true) _ _ _); k_dflt (refine' bound_dict_K (knd := intKind _ _) ?F ?N ?m ?S ?_; (case F => k_asm); (case N => k_asm); (case m => k_mem); (case S => k_asm)); intro qG' h' tk' F' N' lB'; (try k_lt lB')))
set_option hygiene false in
local macro_rules | `(tactic| walk_at "getAttr ref") => `(tactic| (k_here; (with_reducible show wpAny _ _ (getAttr (Value.ref _) (PySem.Str.ofString "append") true) _ _ _); k_dflt (refine' bound_list_K ?F ?N ?m ?_; (case F => k_asm); (case N => k_asm); (case m => k_mem)); intro qA' h' tk' F' N' lB'; (try k_lt lB')))
local macro_rules | `(tactic| walk_at "callWith ref") => `(tactic| (k_here; k_dflt (refine' callWith_bound ?bN ?bM ?_; (case bN => k_asm); (case bM => k_mem); k_whole)))
local macro_rules | `(tactic| walk_at "And") => `(tactic| ((with_reducible show BoundAt _ _ _ _ ∧ _); k_dflt (refine ⟨BoundAt.of (by k_asm) (by k_mem), ?_⟩); (try dsimp only [List.nil_append, List.cons_append])))
local macro_rules | `(tactic| walk_at "exec For Name Call cons nil") => `(tactic| (refine stop_of ?_))
local macro_rules | `(tactic| walk_at "call builtin:dict.get") => `(tactic| (refine stop_of ?_))
local macro_rules | `(tactic| walk_at "setItem ref int") => `(tactic| (refine stop_of ?_))
local macro_rules | `(tactic| walk_at "exec While BoolOp cons nil") => `(tactic| (refine stop_of ?_))
theorem dictGet_K {prog : Program} {w : World} {A : Around} {E : Value → Shared → Prop} {s : Shared} {h₀ : Heap} {L d : Addr} {news : List (Addr × Obj)} {o : Obj} {kvs : List (Str × Value)} {x : Str} {tx : Tok} {dflt : Value} {Q : Value → Shared → Prop}
    (N : News h₀ L s.heap news) (hm : (d, o) ∈ news) (hD : o.IsDictOf (PySem.strKind prog w) kvs) (lo : (d == sysModules) = false) (h : ∀ tk, Q ((valueAt kvs x).getD dflt) { s with toks := tk }) :
    wpAny (model prog w) A (call (.builtin "dict.get") [.ref d, .str x tx, dflt]) Q E s := by
  have hDo : s.heap.DictOf (PySem.strKind prog w) d kvs := Heap.dictOf_iff.mpr ⟨o, N.get hm, hD⟩
  exact call_meetsIn PySem.F.slot_dict_get hDo.typeIs PySem.F.entry_dict_get (PySem.F.args_dict_get_3 _ _ _) (meets_dict_get_default (PySem.strKind prog w) d (strKind_is _ _ _ _) lo dflt) ⟨_, hDo.mapOf, h _⟩
theorem While_never {prog : Program} {w : World} {A : Around} {E : Value → Shared → Prop} {Q : Flow → Shared → Prop} {s : Shared} {env : Env} {h₀ : Heap} {L : Addr} {test : PySem.Expr} {body : List Stmt} {pos : Pos} {m : Str → Option Value} {news : List (Addr × Obj)}
    (F : Fr h₀ L s.heap m) (N : News h₀ L s.heap news)
    (turn : ∀ h₁ tk₁, Fr h₀ L h₁ m → News h₀ L h₁ news → wpAny (model prog w) A (isTrue test env (eval test env)) (fun b s₂ => Stop (b = false ∧ ∃ h' tk, s₂ = { s with heap := h', toks := tk } ∧ Fr h₀ L h' m ∧ News h₀ L h' news)) E { s with heap := h₁, toks := tk₁ })
    (done : ∀ h tk, Fr h₀ L h m → News h₀ L h news → Q .next { s with heap := h, toks := tk })
    (hE : PassesOwn (model prog w) A env E := by passes_own) :
    wpAny (model prog w) A (exec (.While test body [] pos) env) Q E s := by
  refine While_done (n₀ := 0) (fun n m' nw => n = 0 ∧ m' = m ∧ nw = news) (fun m' nw => m' = m ∧ nw = news) F N ⟨rfl, rfl, rfl⟩ ?_ ?_ hE
  · rintro n m₁ news₁ h₁ tk₁ F₁ N₁ ⟨rfl, rfl, rfl⟩
    refine wpAny_mono (turn h₁ tk₁ F₁ N₁) (fun b s₂ p => ?_) fun _ _ e => e
    obtain ⟨rfl, h', tk, rfl, F', N'⟩ := p.h
    exact Stop.mk (by rw [if_neg Bool.false_ne_true]; exact WDone.intro F' N' ⟨rfl, rfl⟩)
  · rintro m₁ news₁ h tk ⟨rfl, rfl⟩ F' N'
    exact done h tk F' N'
theorem sfx_start (x y : List Nat) (alo blo e : Nat) : sfx x y alo blo (alo + 0) e = 0 := by
  rw [Nat.add_zero]
  cases alo with
  | zero => rfl
  | succ a =>
    cases e with
    | zero => rfl
    | succ e => simp only [sfx]; rw [if_neg (by omega)]
theorem items_same {f g : Str} {a b : Nat} (ha : a < f.cps.toList.length) (hb : b < g.cps.toList.length) (q : (Txt.item f (a : Int) == Txt.item g (b : Int)) = true) : f.cps.toList[a]? = g.cps.toList[b]? := by
  rw [item_is, item_is] at q
  have := sign_inj (eq_of_beq q)
  rw [List.getD_eq_getElem?_getD, List.getD_eq_getElem?_getD, List.getElem?_eq_getElem ha, List.getElem?_eq_getElem hb] at this
  rw [List.getElem?_eq_getElem ha, List.getElem?_eq_getElem hb]
  exact congrArg some this
def ListsAt (h : Heap) (TB : List Row) : Prop := ∀ r ∈ TB, h.IsList r.2.1 r.2.2.1.toArray
abbrev frL (f g : Str) (t u : Tok) (xI b2 qB lN dJ : Addr) (alo ahi blo bhi bi bj bs : Nat) (u1 u2 u3 u4 v1 v2 v3 : Tok) (wi wg wn wj wk : Option Value) : Str → Option Value := fun (v : Str) =>
  if v = "k" then wk else if v = "j" then wj else if v = "newj2len" then wn else if v = "j2lenget" then wg else if v = "i" then wi else
  if v = "nothing" then some (.ref lN) else if v = "j2len" then some (.ref dJ) else if v = "bestsize" then some (.int (bs : Int) v3) else if v = "bestj" then some (.int (bj : Int) v2) else if v = "besti" then some (.int (bi : Int) v1) else
  if v = "isbjunk" then some (.ref qB) else if v = "b2j" then some (.ref b2) else if v = "b" then some (.str g u) else if v = "a" then some (.str f t) else
  if v = "bhi" then some (.int (bhi : Int) u4) else if v = "blo" then some (.int (blo : Int) u3) else if v = "ahi" then some (.int (ahi : Int) u2) else if v = "alo" then some (.int (alo : Int) u1) else if v = "self" then some (.ref xI) else none
set_option maxRecDepth 100000 in
set_option maxHeartbeats 4000000 in
theorem t_flm (w : World) : PySem.Challenge.rw_ik0097_01 = PySem.Challenge.rw_ik0097_01 → Kx = Kx → ∀ (f g : Str) (x d b2 jk pp : Addr) (oE oJ : Obj) (TB : List Row) (t u t1 t2 t3 t4 t5 t6 t7 t8 t9 t10 u1 u2 u3 u4 : Tok) (alo ahi blo bhi : Nat), SmIs w f g x d b2 jk oE oJ TB → f.length = 8 → g.length = 8 → alo ≤ ahi → ahi ≤ 8 → blo ≤ bhi → bhi ≤ 8 →
    OwnK w 267 [.ref x, .int alo u1, .int ahi u2, .int blo u3, .int bhi u4] [(x, instObj 313 d), (d, dictOf (attrs1 w.params f g b2 jk pp .none t u t1 t2 t3 t4 t5 t6 t7 t8 t9 t10) 10), (b2, oE), (jk, oJ)] 8 300 (fun h => ListsAt h TB)
      (fun h v h' => ∃ r dm bi bj bs v1 v2 v3, v = .ref r ∧ NewIn h h' [(r, matchObj (.int (bi : Nat) v1) (.int (bj : Nat) v2) (.int (bs : Nat) v3) dm), (x, instObj 313 d), (d, dictOf (attrs1 w.params f g b2 jk pp .none t u t1 t2 t3 t4 t5 t6 t7 t8 t9 t10) 10), (b2, oE), (jk, oJ)] ∧ BestOf f.cps.toList g.cps.toList alo ahi blo bhi bi bj bs) := by
  k_fill
  intro _ _ f g xI dI b2 jk pp oE oJ TB t u t1 t2 t3 t4 t5 t6 t7 t8 t9 t10 u1 u2 u3 u4 alo ahi blo bhi hS hlf hlg h1 h2 h3 h4
  walk_at "OWN"
  simp only [attrs1, attr] at N2
  have F2 := fr_as F1 (m' := fun (y : Str) => List.lookup y [("bhi", Value.int (bhi : Int) u4), ("blo", Value.int (blo : Int) u3), ("ahi", Value.int (ahi : Int) u2), ("alo", Value.int (alo : Int) u1), ("self", Value.ref xI)]) (by intro y; kernel_rfl)
  clear F1
  simp only [lk_cons, lk_nil] at F2
  have hdx := ltN hS.fdx
  have hxb := ltN hS.fxb
  have hbj := ltN hS.fbj
  have hJ := hS.fJunk
  have hE := hS.fDict
  k_steps
  refine Stop.mk ?_
  refine For_invV s.heap rfl rfl ?_
  k_steps
  (rename IsRange _ _ _ _ _ _ _ _ => hr)
  (rename Fr _ _ _ _ => F3)
  (rename News _ _ _ _ => N3)
  (rename (_ == sysModules) = false => lo6)
  (rename Obj.IsDictOf (intKind pw w) _ _ => hi6)
  refine Stop.mk ?_
  rename_i dJ0 _ oD0 hsS fsS fiI la _ lN _ lb _ Fp Np _ _ _ _ _ hsame
  clear hsS fsS fiI Fp Np hsame
  have N4 : News s.heap _ _ [(dJ0, oD0), (lN, W.listOf #[] 0), (qS', boundObj "set.__contains__" jk), (xI, instObj 313 dI), (dI, dictOf (attrs1 w.params f g b2 jk pp .none t u t1 t2 t3 t4 t5 t6 t7 t8 t9 t10) 10), (b2, oE), (jk, oJ)] := news_sub N3 (by
    intro q hq
    rcases List.mem_cons.mp hq with rfl | hq
    · exact .tail _ (.head _)
    rcases List.mem_cons.mp hq with rfl | hq
    · exact .head _
    · exact .tail _ (.tail _ (.tail _ (.tail _ hq))))
  refine iter_rangeG (fun r m' nw => ∃ (dJ : Addr) (oD : Obj) (kvs : List (Int × Value)) (bi bj bs : Nat) (v1 v2 v3 : Tok) (wi wg wn wj wk : Option Value),
      m' = frL f g t u xI b2 qS' lN dJ alo ahi blo bhi bi bj bs u1 u2 u3 u4 v1 v2 v3 wi wg wn wj wk ∧
      nw = [(dJ, oD), (lN, W.listOf #[] 0), (qS', boundObj "set.__contains__" jk), (xI, instObj 313 dI), (dI, dictOf (attrs1 w.params f g b2 jk pp .none t u t1 t2 t3 t4 t5 t6 t7 t8 t9 t10) 10), (b2, oE), (jk, oJ)] ∧
      oD.IsDictOf (intKind pw w) kvs ∧ (dJ == sysModules) = false ∧ (∀ q ∈ [lN, qS', xI, dI, b2, jk], q ≠ dJ) ∧ kvs.length ≤ 8 ∧ DictOk f.cps.toList g.cps.toList alo blo bhi (alo + r) kvs ∧ Best f.cps.toList g.cps.toList alo ahi blo bhi (fun e _ => e ≤ alo + r) bi bj bs) (by rfl) hr (small_one (by omega) (by omega) (by omega) (by omega)) (rangeSize_nat _ _) F3 N4 ?hj ?turn ?done
  case hj =>
    obtain ⟨m1, m2, m3, m4, m5, m6, m7⟩ := la
    obtain ⟨p1, p2, p3, p4, p5, p6, p7, p8⟩ := lb
    refine ⟨dJ0, oD0, [], alo, blo, 0, _, _, _, none, none, none, none, none, funext (by walk_at "FRAME"), rfl, hi6, lo6, ?hne, Nat.zero_le _, fun e _ => .inl ⟨rfl, sfx_start _ _ _ _ _⟩, by rw [Nat.add_zero]; exact Best.start h1 h3⟩
    intro q hq
    simp only [List.mem_cons, List.not_mem_nil, or_false] at hq
    rcases hq with rfl | rfl | rfl | rfl | rfl | rfl
    · exact Nat.ne_of_gt p1
    · exact Nat.ne_of_lt m3
    · exact Nat.ne_of_lt m4
    · exact Nat.ne_of_lt m5
    · exact Nat.ne_of_lt m6
    · exact Nat.ne_of_lt m7
  case done =>
    clear F3 N3 N4 hr hi6 lo6
    rintro m1 nw1 hp1 tk1 ⟨dJ, oD, kvs, bi, bj, bs, v1, v2, v3, wi, wg, wn, wj, wk, rfl, rfl, hD, loJ, hneJ, hkl, hDk, hB⟩ F4 N4
    have hBo : BestOf f.cps.toList g.cps.toList alo ahi blo bhi bi bj bs := hB.all (fun p q h => by omega)
    clear hB hDk
    have hfl : f.cps.toList.length = 8 := by rw [show f.cps.toList.length = f.length by simp [Str.length]]; exact hlf
    have hgl : g.cps.toList.length = 8 := by rw [show g.cps.toList.length = g.length by simp [Str.length]]; exact hlg
    have a0 := hBo.1.a0; have a1 := hBo.1.a1; have b0 := hBo.1.b0; have b1 := hBo.1.b1
    have hbef := hBo.before
    have hbeh := hBo.behind
    k_steps
    refine Stop.mk ?_
    refine While_never F4 N4 (fun h21 tk21 F21 N21 => ?_) (fun h21 tk21 F21 N21 => ?_)
    · clear F4 N4
      k_steps
      · refine Stop.mk ?_
        refine boundCall_contains N21 (.tail _ (.tail _ (.head _))) (.tail _ (.tail _ (.tail _ (.tail _ (.tail _ (.tail _ (.head _))))))) hJ (by decide) (fun tk31 => ?_)
        k_steps
        · (rename (Txt.item f _ == Txt.item g _) = true => qe)
          rw [show (bi : Int) - 1 = ((bi - 1 : Nat) : Int) by omega, show (bj : Int) - 1 = ((bj - 1 : Nat) : Int) by omega] at qe
          exact absurd (items_same (by omega) (by omega) qe) (hbef (by omega) (by omega))
        · exact Stop.mk ⟨rfl, h21, _, rfl, F21, N21⟩
      · exact Stop.mk ⟨rfl, h21, _, rfl, F21, N21⟩
      · exact Stop.mk ⟨rfl, h21, _, rfl, F21, N21⟩
    · clear F4 N4
      k_steps
      refine Stop.mk ?_
      refine While_never F21 N21 (fun h22 tk22 F22 N22 => ?_) (fun h22 tk22 F22 N22 => ?_)
      · clear F21 N21
        k_steps
        · refine Stop.mk ?_
          refine boundCall_contains N22 (.tail _ (.tail _ (.head _))) (.tail _ (.tail _ (.tail _ (.tail _ (.tail _ (.tail _ (.head _))))))) hJ (by decide) (fun tk31 => ?_)
          k_steps
          · (rename (Txt.item f _ == Txt.item g _) = true => qe)
            rw [show (bi : Int) + (bs : Int) = ((bi + bs : Nat) : Int) by omega, show (bj : Int) + (bs : Int) = ((bj + bs : Nat) : Int) by omega] at qe
            exact absurd (items_same (by omega) (by omega) qe) (hbeh (by omega) (by omega))
          · exact Stop.mk ⟨rfl, h22, _, rfl, F22, N22⟩
        · exact Stop.mk ⟨rfl, h22, _, rfl, F22, N22⟩
        · exact Stop.mk ⟨rfl, h22, _, rfl, F22, N22⟩
      · clear F21 N21
        k_steps
        refine Stop.mk ?_
        refine While_never F22 N22 (fun h23 tk23 F23 N23 => ?_) (fun h23 tk23 F23 N23 => ?_)
        · clear F22 N22
          k_steps
          · refine Stop.mk ?_
            refine boundCall_contains N23 (.tail _ (.tail _ (.head _))) (.tail _ (.tail _ (.tail _ (.tail _ (.tail _ (.tail _ (.head _))))))) hJ (by decide) (fun tk31 => ?_)
            k_steps
            all_goals exact Stop.mk ⟨by first | rfl | trivial, h23, _, rfl, F23, N23⟩
          all_goals exact Stop.mk ⟨by first | rfl | trivial, h23, _, rfl, F23, N23⟩
        · clear F22 N22
          k_steps
          refine Stop.mk ?_
          refine While_never F23 N23 (fun h24 tk24 F24 N24 => ?_) (fun h24 tk24 F24 N24 => ?_)
          · clear F23 N23
            k_steps
            · refine Stop.mk ?_
              refine boundCall_contains N24 (.tail _ (.tail _ (.head _))) (.tail _ (.tail _ (.tail _ (.tail _ (.tail _ (.tail _ (.head _))))))) hJ (by decide) (fun tk31 => ?_)
              k_steps
              all_goals exact Stop.mk ⟨by first | rfl | trivial, h24, _, rfl, F24, N24⟩
            all_goals exact Stop.mk ⟨by first | rfl | trivial, h24, _, rfl, F24, N24⟩
          · clear F23 N23
            k_steps
            refine Stop.mk ?_
            refine pur_use (t_match w rfl rfl _ _ _) ⟨rfl, F24, _, _, _, _, _, _, _, rfl, rfl, rfl, B, X, T⟩ (by walk_at "ROOM") (by walk_at "ROOM") trivial ?_
            rintro _ h25 tk25 hs25 F25 ⟨rm, dm, rfl, hlt25, hn25⟩
            have N25 := news_adds F24 N24 hs25 hn25
            dsimp only
            refine PEnd.intro F25 ⟨rm, dm, bi, bj, bs, v1, v2, v3, rfl, newIn_of N25 ?_, hBo⟩
            intro q hq
            rcases List.mem_cons.mp hq with rfl | hq
            · exact .head _
            · exact .tail _ (.tail _ (.tail _ (.tail _ (.tail _ hq))))
  case turn =>
    clear F3 N3 N4 hr hi6 lo6
    rintro r ti m1 nw1 hp1 tk1 own1 hr hoff1 ⟨dJ, oD, kvs, bi, bj, bs, v1, v2, v3, wi, wg, wn, wj, wk, rfl, rfl, hD, loJ, hneJ, hkl, hDk, hB⟩ F4 N4
    simp only [List.cons_append, List.nil_append] at N4
    have hri : alo + r < ahi := by omega
    have hfl : f.cps.toList.length = 8 := by rw [show f.cps.toList.length = f.length by simp [Str.length]]; exact hlf
    have hgl : g.cps.toList.length = 8 := by rw [show g.cps.toList.length = g.length by simp [Str.length]]; exact hlg
    obtain ⟨c, hc⟩ : ∃ c, f.cps.toList[alo + r]? = some c := ⟨_, List.getElem?_eq_getElem (show alo + r < f.cps.toList.length by omega)⟩
    have hitem : Txt.item f ((alo : Int) + (r : Int)) = ⟨#[c]⟩ := by
      have := item_is f (alo + r)
      rw [show ((alo + r : Nat) : Int) = (alo : Int) + (r : Int) by omega] at this
      rw [this, List.getD_eq_getElem?_getD, hc]; rfl
    k_steps
    (rename Fr s.heap L' _ (fun y => if y = Str.ofString "newj2len" then _ else _) => F5)
    (rename News s.heap L' _ _ => N5)
    (rename Obj.IsDictOf (intKind pw w) _ [] => hN0)
    (rename (_ == sysModules) = false => loN)
    refine Stop.mk ?_
    rename_i _ dN _ oN hsS fsS fiI lc _
    clear hsS fsS fiI
    have F6 := fr_as F5 (m' := frL f g t u xI b2 qS' lN dJ alo ahi blo bhi bi bj bs u1 u2 u3 u4 v1 v2 v3 (some (.int ((alo : Int) + (r : Int)) ti)) (some (.ref qG')) (some (.ref dN)) wj wk) (by walk_at "FRAME")
    refine wpAny_mono (Q := fun fl s' => Stop (fl = .next ∧ ∃ (hF : Heap) (tkF : Nat) (oF : Obj) (kvF : List (Int × Value)) (ci cj cs : Nat) (w1 w2 w3 : Tok) (xj xk : Option Value), s' = { s with heap := hF, toks := tkF } ∧
        Fr s.heap L' hF (frL f g t u xI b2 qS' lN dJ alo ahi blo bhi ci cj cs u1 u2 u3 u4 w1 w2 w3 (some (.int ((alo : Int) + (r : Int)) ti)) (some (.ref qG')) (some (.ref dN)) xj xk) ∧
        News s.heap L' hF ((dN, oF) :: (qG', boundObj "dict.get" dJ) :: (dJ, oD) :: (lN, W.listOf #[] 0) :: (qS', boundObj "set.__contains__" jk) :: (xI, instObj 313 dI) :: (dI, dictOf (attrs1 w.params f g b2 jk pp .none t u t1 t2 t3 t4 t5 t6 t7 t8 t9 t10) 10) :: (b2, oE) :: (jk, oJ) :: own1) ∧
        oF.IsDictOf (intKind pw w) kvF ∧ kvF.length ≤ 8 ∧ DictOk f.cps.toList g.cps.toList alo blo bhi (alo + (r + 1)) kvF ∧ Best f.cps.toList g.cps.toList alo ahi blo bhi (fun e _ => e ≤ alo + (r + 1)) ci cj cs)) ?inner ?after (fun _ _ e => e)
    case after =>
      rintro fl s' ⟨rfl, hF9, tkF, oF, kvF, ci, cj, cs, w1, w2, w3, xj, xk, rfl, F9, N9, hF, hkF, hDF, hBF⟩
      dsimp only
      k_steps
      (rename Fr s.heap L' _ _ => F11)
      (rename News s.heap L' _ _ => N11)
      have F12 := fr_as F11 (m' := frL f g t u xI b2 qS' lN dN alo ahi blo bhi ci cj cs u1 u2 u3 u4 w1 w2 w3 (some (.int ((alo : Int) + (r : Int)) ti)) (some (.ref qG')) (some (.ref dN)) xj xk) (by walk_at "FRAME")
      obtain ⟨m1, m2, m3, m4, m5, m6, m7, m8, m9⟩ := lc
      refine InvEndG.intro F12 N11 ⟨dN, oF, kvF, ci, cj, cs, w1, w2, w3, _, _, _, _, _, rfl, rfl, hF, loN, ?_, hkF, hDF, hBF⟩ ?_ ?_ ?_
      · intro q hq
        simp only [List.mem_cons, List.not_mem_nil, or_false] at hq
        rcases hq with rfl | rfl | rfl | rfl | rfl | rfl
        · exact Nat.ne_of_lt m3
        · exact Nat.ne_of_lt m4
        · exact Nat.ne_of_lt m5
        · exact Nat.ne_of_lt m6
        · exact Nat.ne_of_lt m7
        · exact Nat.ne_of_lt m8
      · intro q hq b hb
        rcases List.mem_cons.mp hb with rfl | hb
        · exact allLt_ne m9 (Nat.le_refl _) q hq
        · exact hoff1 q hq b (.tail _ hb)
      · intro q hq
        rcases List.mem_cons.mp hq with rfl | hq
        · exact .head _
        · refine .tail _ (.tail _ (.tail _ ?_))
          exact List.mem_append_left own1 hq
      · intro q hq
        simp [hq]
    case inner =>
      by_cases hmem : ∃ q ∈ TB, q.1 = c
      · obtain ⟨⟨c', a, vs, k0⟩, hr0, hcc⟩ := hmem
        dsimp only at hcc
        subst hcc
        have hints := hS.fTab.fInts _ hr0
        dsimp only at hints
        refine For_invV s.heap rfl rfl ?_
        k_steps
        refine Stop.mk ?_
        rw [hitem]
        refine dictGet_K N5 (List.Mem.tail _ (.tail _ (.tail _ (.tail _ (.tail _ (.tail _ (.tail _ (.head _)))))))) hE hS.fsys (fun tk9 => ?_)
        rw [kvs_value hS.fTab.fKeys _ hr0]
        dsimp only [Option.getD]
        have hidx : ∀ e, blo ≤ e → e < bhi → f.cps.toList[alo + r]? = g.cps.toList[e]? → e ∈ occ g.cps.toList g.length c' := fun e _ he2 he3 => occ_mem.mpr ⟨by omega, by rw [← he3]; exact hc⟩
        have hoc8 : (occ g.cps.toList g.length c').length ≤ 8 := Nat.le_trans (List.length_filter_le _ _) (by rw [List.length_range]; omega)
        clear F5 hitem F4 N4
        generalize hP0 : occ g.cps.toList g.length c' = P0 at hints hidx hoc8
        have hsort : P0.Pairwise (· < ·) := hP0 ▸ occ_lt
        have hmemP : ∀ e ∈ P0, e < 8 ∧ f.cps.toList[alo + r]? = g.cps.toList[e]? := fun e he => by
          rw [← hP0] at he
          have := occ_mem.mp he
          exact ⟨by omega, by rw [this.2]; exact hc⟩
        refine iter_baseV (fun z m' nw => ∃ (oF : Obj) (kvF : List (Int × Value)) (ci cj cs : Nat) (w1 w2 w3 : Tok) (xj xk : Option Value),
          m' = frL f g t u xI b2 qS' lN dJ alo ahi blo bhi ci cj cs u1 u2 u3 u4 w1 w2 w3 (some (.int ((alo : Int) + (r : Int)) ti)) (some (.ref qG')) (some (.ref dN)) xj xk ∧
          nw = (dN, oF) :: (qG', boundObj "dict.get" dJ) :: (dJ, oD) :: (lN, W.listOf #[] 0) :: (qS', boundObj "set.__contains__" jk) :: (xI, instObj 313 dI) :: (dI, dictOf (attrs1 w.params f g b2 jk pp .none t u t1 t2 t3 t4 t5 t6 t7 t8 t9 t10) 10) :: (b2, oE) :: (jk, oJ) :: own1 ∧
          oF.IsDictOf (intKind pw w) kvF ∧ kvF.length ≤ z ∧ NewOk f.cps.toList g.cps.toList alo blo bhi (alo + r) (P0.take z) kvF ∧ Best f.cps.toList g.cps.toList alo ahi blo bhi (Dz (alo + r) (P0.take z)) ci cj cs) rfl (hP _ hr0) F6 N5 ?hj ?turn ?done
        case hj => exact ⟨oN, [], bi, bj, bs, v1, v2, v3, wj, wk, rfl, rfl, hN0, Nat.le_refl _, NewOk.nil, by rw [List.take_zero]; exact hB.row⟩
        case done =>
          rintro m₁ news₁ h9 tk8 ⟨oF, kvF, ci, cj, cs, w1, w2, w3, xj, xk, rfl, rfl, hF, hkF, hNew, hBest⟩ F9 N9
          rw [List.take_of_length_le (by rw [hints.length, List.length_map]; exact Nat.le_refl _)] at hNew hBest
          exact Stop.mk ⟨rfl, h9, tk8, oF, kvF, ci, cj, cs, w1, w2, w3, xj, xk, rfl, F9, N9, hF, by rw [hints.length, List.length_map] at hkF; omega, hNew.done hidx, hBest.done hidx⟩
        case turn =>
          clear F6 N5 hN0
          rintro z v m₁ news₁ h9 tk8 own2 hv hoff2 ⟨oF, kvF, ci, cj, cs, w1, w2, w3, xj, xk, rfl, rfl, hF, hkF, hNew, hBest⟩ F9 N9
          obtain ⟨p9, tp, rfl, hz⟩ := hints.at z v hv
          obtain ⟨p, hp, rfl⟩ : ∃ p : Nat, P0[z]? = some p ∧ p9 = (p : Int) := by
            rw [List.getElem?_map] at hz
            cases hq : P0[z]? with
            | none => rw [hq] at hz; cases hz
            | some p => rw [hq] at hz; exact ⟨p, rfl, (Option.some.inj hz).symm⟩
          have hp8 := hmemP p (List.mem_of_getElem? hp)
          rw [take_step hp]
          have hlt := take_lt hsort hp
          simp only [List.cons_append] at N9
          have eLed : ∀ oX, ((dN, oX) :: (qG', boundObj "dict.get" dJ) :: (dJ, oD) :: (lN, W.listOf #[] 0) :: (qS', boundObj "set.__contains__" jk) :: (xI, instObj 313 dI) :: (dI, dictOf (attrs1 w.params f g b2 jk pp .none t u t1 t2 t3 t4 t5 t6 t7 t8 t9 t10) 10) :: (b2, oE) :: (jk, oJ) :: own1).map (·.1) = ((dN, oF) :: (qG', boundObj "dict.get" dJ) :: (dJ, oD) :: (lN, W.listOf #[] 0) :: (qS', boundObj "set.__contains__" jk) :: (xI, instObj 313 dI) :: (dI, dictOf (attrs1 w.params f g b2 jk pp .none t u t1 t2 t3 t4 t5 t6 t7 t8 t9 t10) 10) :: (b2, oE) :: (jk, oJ) :: own1).map (·.1) := fun _ => rfl
          k_steps
          · (rename (p : Int) < (blo : Int) => q1)
            have q2 : p < blo := by omega
            refine InvEndG.intro (fr_as F9 (m' := frL f g t u xI b2 qS' lN dJ alo ahi blo bhi ci cj cs u1 u2 u3 u4 w1 w2 w3 (some (.int ((alo : Int) + (r : Int)) ti)) (some (.ref qG')) (some (.ref dN)) (some (.int (p : Int) tp)) xk) (by walk_at "FRAME")) N9
              ⟨oF, kvF, ci, cj, cs, w1, w2, w3, _, xk, rfl, rfl, hF, by omega, hNew.skip q2, hBest.low q2⟩ hoff2 ?_ ?_
            · intro q hq
              simp only [← List.cons_append]
              exact List.mem_append_left _ hq
            · intro q hq
              simp only [← List.cons_append]
              exact List.mem_append_right _ hq
          · (rename (bhi : Int) ≤ (p : Int) => q1)
            have hall : ∀ e, blo ≤ e → e < bhi → f.cps.toList[alo + r]? = g.cps.toList[e]? → e ∈ P0.take z := fun e he1 he2 he3 => rest_ge hsort hp (hidx e he1 he2 he3) (by omega)
            have hz8 : z < P0.length := by
              rcases Nat.lt_or_ge z P0.length with h | h
              · exact h
              · rw [List.getElem?_eq_none h] at hp; cases hp
            exact Stop.mk ⟨rfl, h9, _, oF, kvF, ci, cj, cs, w1, w2, w3, _, xk, rfl, fr_as F9 (m' := frL f g t u xI b2 qS' lN dJ alo ahi blo bhi ci cj cs u1 u2 u3 u4 w1 w2 w3 (some (.int ((alo : Int) + (r : Int)) ti)) (some (.ref qG')) (some (.ref dN)) (some (.int (p : Int) tp)) xk) (by walk_at "FRAME"), news_sub N9 (fun q hq => by simp only [← List.cons_append]; exact List.mem_append_left _ hq), hF, by omega, hNew.done hall, hBest.done hall⟩
          · have hp1 : blo ≤ p := by omega
            have hp2 : p < bhi := by omega
            have hsx : sfx f.cps.toList g.cps.toList alo blo (alo + r + 1) (p + 1) = sfx f.cps.toList g.cps.toList alo blo (alo + r) p + 1 := by
              simp only [sfx]
              rw [if_pos ⟨by omega, hp1, hp8.2⟩]
            have hcell := hBest.at (by omega) hri hp1 hp2 hp8.2 hlt
            have hsp := sfx_spec f.cps.toList g.cps.toList alo blo (alo + r + 1) (p + 1) (by omega) (by omega)
            have hget : ∀ t0, ∃ t', (valueAt kvs ((p : Int) - 1)).getD (.int 0 t0) = .int ((sfx f.cps.toList g.cps.toList alo blo (alo + r) p : Nat) : Int) t' := by
              intro t0
              rcases hDk p (by omega) with ⟨e1, e2⟩ | ⟨t', e1⟩
              · rw [e1, e2]; exact ⟨t0, rfl⟩
              · rw [e1]; exact ⟨t', rfl⟩
            refine Stop.mk ?_
            refine boundCall_get N9 (.tail _ (.head _)) (.tail _ (.tail _ (.head _))) hD loJ (fun tk5 => ?_)
            obtain ⟨t15, e5⟩ := hget (tk8 + 1 + 1)
            rw [e5]
            generalize hsv : sfx f.cps.toList g.cps.toList alo blo (alo + r) p = sv at hsx
            rw [hsx] at hcell hsp
            have hstore := hNew.store (p := p) (alo := alo)
            rw [hsx] at hstore
            k_steps
            refine Stop.mk ?_
            (rename Fr s.heap L' _ (fun y => if y = Str.ofString "k" then _ else _) => F10)
            (rename News s.heap L' _ _ => N10)
            have hz8 : z < P0.length := by
              rcases Nat.lt_or_ge z P0.length with h | h
              · exact h
              · rw [List.getElem?_eq_none h] at hp; cases hp
            have hneN : ∀ q ∈ (qG', boundObj "dict.get" dJ) :: (dJ, oD) :: (lN, W.listOf #[] 0) :: (qS', boundObj "set.__contains__" jk) :: (xI, instObj 313 dI) :: (dI, dictOf (attrs1 w.params f g b2 jk pp .none t u t1 t2 t3 t4 t5 t6 t7 t8 t9 t10) 10) :: (b2, oE) :: (jk, oJ) :: (own1 ++ own2), q.1 ≠ dN := by
              obtain ⟨m1, m2, m3, m4, m5, m6, m7, m8, m9⟩ := lc
              intro q hq
              rcases List.mem_cons.mp hq with rfl | hq
              · exact Nat.ne_of_lt m1
              rcases List.mem_cons.mp hq with rfl | hq
              · exact Nat.ne_of_lt m2
              rcases List.mem_cons.mp hq with rfl | hq
              · exact Nat.ne_of_lt m3
              rcases List.mem_cons.mp hq with rfl | hq
              · exact Nat.ne_of_lt m4
              rcases List.mem_cons.mp hq with rfl | hq
              · exact Nat.ne_of_lt m5
              rcases List.mem_cons.mp hq with rfl | hq
              · exact Nat.ne_of_lt m6
              rcases List.mem_cons.mp hq with rfl | hq
              · exact Nat.ne_of_lt m7
              rcases List.mem_cons.mp hq with rfl | hq
              · exact Nat.ne_of_lt m8
              rcases List.mem_append.mp hq with hq | hq
              · exact allLt_ne m9 (Nat.le_refl _) q hq
              · exact hoff2 q hq dN (by simp)
            refine kda_set (knd := intKind _ _) F10 N10 (UpdF.head hneN) hF (intKind_is _ _ _ _) (by rw [sizeLine_eq]; omega) ?_
            intro h11 o11 F11 N11 hd11
            clear F10 N10
            k_steps
            · (rename (cs : Int) < (sv : Int) + 1 => q1)
              (rename Fr s.heap L' _ _ => F12)
              (rename News s.heap L' _ _ => N12)
              have i1 : (alo : Int) + (r : Int) - ((sv : Int) + 1) + 1 = ((alo + r + 1 - (sv + 1) : Nat) : Int) := by omega
              have i2 : (p : Int) - ((sv : Int) + 1) + 1 = ((p + 1 - (sv + 1) : Nat) : Int) := by omega
              rw [i1, i2] at F12
              have F13 := fr_as F12 (m' := frL f g t u xI b2 qS' lN dJ alo ahi blo bhi (alo + r + 1 - (sv + 1)) (p + 1 - (sv + 1)) (sv + 1) u1 u2 u3 u4 _ _ _ (some (.int ((alo : Int) + (r : Int)) ti)) (some (.ref qG')) (some (.ref dN)) (some (.int (p : Int) tp)) (some (.int ((sv : Int) + 1) _))) (by walk_at "FRAME")
              refine InvEndG.intro F13 N12 ⟨o11, _, _, _, _, _, _, _, _, _, rfl, rfl, hd11, Nat.le_trans (stored_length_le _ _ _) (by omega), hstore _, hcell.1 (by omega)⟩ hoff2 ?_ ?_
              · intro q hq
                refine .tail _ ?_
                simp only [← List.cons_append]
                exact List.mem_append_left _ hq
              · intro q hq
                refine .tail _ ?_
                simp only [← List.cons_append]
                exact List.mem_append_right _ hq
            · (rename ¬ (cs : Int) < (sv : Int) + 1 => q1)
              (rename Fr s.heap L' _ _ => F12)
              (rename News s.heap L' _ _ => N12)
              have F13 := fr_as F12 (m' := frL f g t u xI b2 qS' lN dJ alo ahi blo bhi ci cj cs u1 u2 u3 u4 w1 w2 w3 (some (.int ((alo : Int) + (r : Int)) ti)) (some (.ref qG')) (some (.ref dN)) (some (.int (p : Int) tp)) (some (.int ((sv : Int) + 1) _))) (by walk_at "FRAME")
              refine InvEndG.intro F13 N12 ⟨o11, _, ci, cj, cs, w1, w2, w3, _, _, rfl, rfl, hd11, Nat.le_trans (stored_length_le _ _ _) (by omega), hstore _, hcell.2 (by omega)⟩ hoff2 ?_ ?_
              · intro q hq
                simp only [← List.cons_append]
                exact List.mem_append_left _ hq
              · intro q hq
                simp only [← List.cons_append]
                exact List.mem_append_right _ hq
      · have hidx : ∀ e, blo ≤ e → e < bhi → f.cps.toList[alo + r]? = g.cps.toList[e]? → e ∈ ([] : List Nat) := fun e _ he2 he3 => by
          obtain ⟨q, hq, e'⟩ := hS.fTab.fHas e (by omega) c (by rw [← he3]; exact hc)
          exact absurd ⟨q, hq, e'⟩ hmem
        have hno : ∀ q ∈ TB, q.1 ≠ c := fun q hq e => hmem ⟨q, hq, e⟩
        refine For_turns F6 ?_
        k_steps
        refine Stop.mk ?_
        rw [hitem]
        refine dictGet_K N5 (List.Mem.tail _ (.tail _ (.tail _ (.tail _ (.tail _ (.tail _ (.tail _ (.head _)))))))) hE hS.fsys (fun tk9 => ?_)
        rw [kvs_none hno]
        dsimp only [Option.getD]
        refine iter_listTurns (vs := []) (n := 0) (lo := W.listOf #[] 0) rfl F6 N5 (List.Mem.tail _ (.tail _ (.tail _ (.head _)))) rfl rfl (fun I hI => ?_)
        intro h9 tk8 F9 N9
        exact Stop.mk ⟨rfl, h9, tk8, oN, [], bi, bj, bs, v1, v2, v3, wj, wk, rfl, F9, N9, hN0, Nat.zero_le _, NewOk.nil.done hidx, hB.row.done hidx⟩
end Mine
end
section
open PySem PySem.W PySem.Calls PySem.Spec PyProof PyProof.Rows
set_option Elab.async false
set_option maxRecDepth 100000
namespace Mine
def evalK {α : Type} (n : Nat) (lt : Nat → Nat → Bool) : KasT α → Option α
  | .ret a => some a
  | .ask i j k => if i < n ∧ j < n ∧ i ≠ j then evalK n lt (k (lt i j)) else none
theorem kas_eval {α : Type} {n : Nat} {lt : Nat → Nat → Bool} {cmp : Nat → Nat → (Bool → Shared → Prop) → Shared → Prop} {s : Shared} (hc : ∀ i j C tk, i < n → j < n → i ≠ j → (∀ tk, C (lt i j) { s with toks := tk }) → cmp i j C { s with toks := tk }) {a : α} {Q : α → Shared → Prop} :
    ∀ (t : KasT α) (tk : Nat), evalK n lt t = some a → (∀ tk, Q a { s with toks := tk }) → t.kasWp cmp Q { s with toks := tk }
  | .ret b, tk, h, q => by
    have : b = a := Option.some.inj h
    subst this
    exact q tk
  | .ask i j k, tk, h, q => by
    unfold evalK at h
    split at h
    · rename_i hb
      exact hc i j _ tk hb.1 hb.2.1 hb.2.2 fun tk => kas_eval hc (k (lt i j)) tk h q
    · cases h
def okSort (r : List Nat) : Bool := match evalK r.length (fun i j => decide (r.getD i 0 < r.getD j 0)) (kas_sort r.length) with
  | some p => p.toList.map (fun i => r.getD i 0) == List.range r.length && p.toList.isPerm (List.range r.length)
  | none => false
theorem sort2 : ∀ a, a < 2 → ∀ b, b < 2 → [a, b].Nodup → okSort [a, b] = true := by decide +kernel
theorem sort3 : ∀ a, a < 3 → ∀ b, b < 3 → ∀ c, c < 3 → [a, b, c].Nodup → okSort [a, b, c] = true := by decide +kernel
theorem sort4 : ∀ a, a < 4 → ∀ b, b < 4 → ∀ c, c < 4 → ∀ d, d < 4 → [a, b, c, d].Nodup → okSort [a, b, c, d] = true := by decide +kernel
set_option synthInstance.maxSize 1000 in
set_option synthInstance.maxHeartbeats 2000000 in
theorem sort5 : ∀ a, a < 5 → ∀ b, b < 5 → ∀ c, c < 5 → ∀ d, d < 5 → ∀ e, e < 5 → [a, b, c, d, e].Nodup → okSort [a, b, c, d, e] = true := by decide +kernel
theorem evalK_congr {α : Type} {n : Nat} {lt lt' : Nat → Nat → Bool} (h : ∀ i j, i < n → j < n → lt i j = lt' i j) : ∀ t : KasT α, evalK n lt t = evalK n lt' t
  | .ret _ => rfl
  | .ask i j k => by
    unfold evalK
    split
    · rename_i hb
      rw [h i j hb.1 hb.2.1]
      exact evalK_congr h (k (lt' i j))
    · rfl
def rank (xs : List Nat) (x : Nat) : Nat := xs.countP fun y => decide (y < x)
theorem countP_lt {p q : Nat → Bool} : ∀ {xs : List Nat}, (∀ y ∈ xs, p y = true → q y = true) → (∃ y ∈ xs, q y = true ∧ p y = false) → xs.countP p < xs.countP q
  | [], _, h => by obtain ⟨y, hy, _⟩ := h; cases hy
  | a :: xs, h1, h2 => by
    rw [List.countP_cons, List.countP_cons]
    have mono : xs.countP p ≤ xs.countP q := List.countP_mono_left fun y hy => h1 y (.tail _ hy)
    obtain ⟨y, hy, hq, hp⟩ := h2
    rcases List.mem_cons.mp hy with rfl | hy
    · rw [hq, hp]; simp; omega
    · have ih := countP_lt (p := p) (q := q) (fun y hy => h1 y (.tail _ hy)) ⟨y, hy, hq, hp⟩
      have := h1 a (.head _)
      cases hpa : p a with
      | false => cases q a <;> simp <;> omega
      | true => rw [this hpa]; simp; omega
theorem rank_lt {xs : List Nat} {x y : Nat} (hx : x ∈ xs) : rank xs x < rank xs y ↔ x < y := by
  constructor
  · intro h
    rcases Nat.lt_or_ge x y with h' | h'
    · exact h'
    · have : rank xs y ≤ rank xs x := List.countP_mono_left fun z _ hz => by simp at hz ⊢; omega
      omega
  · intro h
    exact countP_lt (fun z _ hz => by simp at hz ⊢; omega) ⟨x, hx, by simpa using h, by simp⟩
theorem rank_len {xs : List Nat} {x : Nat} (hx : x ∈ xs) : rank xs x < xs.length := by
  have : xs.countP (fun _ => true) = xs.length := by simp
  rw [← this]
  exact countP_lt (fun _ _ _ => rfl) ⟨x, hx, rfl, by simp⟩
theorem rank_nodup {xs : List Nat} (h : xs.Nodup) : (xs.map (rank xs)).Nodup := by
  unfold List.Nodup at h ⊢
  rw [List.pairwise_map]
  refine List.Pairwise.imp_of_mem (fun {a b} ha hb hab e => ?_) h
  rcases Nat.lt_or_gt_of_ne hab with q | q
  · have := (rank_lt (xs := xs) (y := b) ha).mpr q; omega
  · have := (rank_lt (xs := xs) (y := a) hb).mpr q; omega
theorem sort_any : ∀ {r : List Nat}, 2 ≤ r.length → r.length ≤ 5 → r.Nodup → (∀ x ∈ r, x < r.length) → okSort r = true
  | [], h, _, _, _ => absurd h (by decide)
  | [_], h, _, _, _ => by simp only [List.length_cons, List.length_nil] at h; omega
  | [a, b], _, _, hn, hl => sort2 a (hl a (by simp)) b (hl b (by simp)) hn
  | [a, b, c], _, _, hn, hl => sort3 a (hl a (by simp)) b (hl b (by simp)) c (hl c (by simp)) hn
  | [a, b, c, d], _, _, hn, hl => sort4 a (hl a (by simp)) b (hl b (by simp)) c (hl c (by simp)) d (hl d (by simp)) hn
  | [a, b, c, d, e], _, _, hn, hl => sort5 a (hl a (by simp)) b (hl b (by simp)) c (hl c (by simp)) d (hl d (by simp)) e (hl e (by simp)) hn
  | _ :: _ :: _ :: _ :: _ :: _ :: _, _, h, _, _ => by simp only [List.length_cons] at h; omega
/-- the order that the sort gives to keys that differ -/
theorem sort_keys {xs : List Nat} (h2 : 2 ≤ xs.length) (h5 : xs.length ≤ 5) (hn : xs.Nodup) :
    ∃ p, evalK xs.length (fun i j => decide (xs.getD i 0 < xs.getD j 0)) (kas_sort xs.length) = some p ∧ p.toList.Perm (List.range xs.length) ∧ (p.toList.map fun i => xs.getD i 0).Pairwise (· < ·) := by
  have hr := sort_any (r := xs.map (rank xs)) (by simpa using h2) (by simpa using h5) (rank_nodup hn) (fun x hx => by
    obtain ⟨y, hy, rfl⟩ := List.mem_map.mp hx
    rw [List.length_map]; exact rank_len hy)
  unfold okSort at hr
  rw [List.length_map] at hr
  have hget : ∀ i, i < xs.length → (xs.map (rank xs)).getD i 0 = rank xs (xs.getD i 0) ∧ xs.getD i 0 ∈ xs := fun i hi => by
    rw [List.getD_eq_getElem?_getD, List.getD_eq_getElem?_getD, List.getElem?_map, List.getElem?_eq_getElem hi]
    exact ⟨rfl, List.getElem_mem hi⟩
  have he : evalK xs.length (fun i j => decide (xs.getD i 0 < xs.getD j 0)) (kas_sort xs.length) = evalK xs.length (fun i j => decide ((xs.map (rank xs)).getD i 0 < (xs.map (rank xs)).getD j 0)) (kas_sort xs.length) :=
    evalK_congr (fun i j hi hj => by
      have a := hget i hi; have b := hget j hj
      rw [a.1, b.1]
      have := rank_lt (xs := xs) (y := xs.getD j 0) a.2
      simp only [decide_eq_decide]
      exact this.symm) _
  rw [he]
  split at hr
  · rename_i p hp
    rw [Bool.and_eq_true, beq_iff_eq, List.isPerm_iff] at hr
    refine ⟨p, hp, hr.2, ?_⟩
    have hmem : ∀ i ∈ p.toList, i < xs.length := fun i hi => List.mem_range.mp (hr.2.mem_iff.mp hi)
    have hpw : (p.toList.map fun i => (xs.map (rank xs)).getD i 0).Pairwise (· < ·) := by rw [hr.1]; exact List.pairwise_lt_range
    rw [List.pairwise_map] at hpw ⊢
    refine List.Pairwise.imp_of_mem (fun {a b} ha hb hab => ?_) hpw
    rw [(hget a (hmem a ha)).1, (hget b (hmem b hb)).1] at hab
    exact (rank_lt (hget a (hmem a ha)).2).mp hab
  · cases hr
end Mine
end
section
open PySem PySem.W PySem.Calls PySem.Spec PyProof PyProof.Rows
set_option Elab.async false
namespace Mine
set_option linter.unusedVariables false
set_option linter.unusedSimpArgs false
set_option maxRecDepth 100000
/-- an object of the class Match -/
def IsM (h : Heap) (r : Addr) (its : Array Value) : Prop := ∃ o, h.get? r = some o ∧ o.cls = .ref 206 ∧ ∃ n, o.data = .seq its n
structure MCls (M : Model) (h : Heap) : Prop where
  iter : Looks M h (typeLookup (.ref 206) "__iter__") (some (.builtin "tuple.__iter__"))
  lt : Looks M h (typeLookup (.ref 206) "__lt__") (some (.builtin "tuple.__lt__"))
  len : Looks M h (typeLookup (.ref 206) "__len__") (some (.builtin "tuple.__len__"))
  sub : Looks M h (isSubtype (.ref 206) (.type "tuple")) true
theorem mcls_of (w : World) : PySem.Challenge.rw_ik0097_01 = PySem.Challenge.rw_ik0097_01 → Kx = Kx → ∀ (h : Heap), (Kx w.params).In h → MCls (model pw w) h := by
  k_fill
  intro _ _ h X
  have e1 : findIn (Kx w.params) (.ref 206) "__iter__" = some (some (.builtin "tuple.__iter__")) := by k_dflt k_is
  have e2 : findIn (Kx w.params) (.ref 206) "__lt__" = some (some (.builtin "tuple.__lt__")) := by k_dflt k_is
  have e3 : findIn (Kx w.params) (.ref 206) "__len__" = some (some (.builtin "tuple.__len__")) := by k_dflt k_is
  have hY : tupIn (Kx w.params) 206 = true := by kernel_rfl
  exact ⟨looks_findIn X e1, looks_findIn X e2, looks_findIn X e3, (tup_of X hY).sub⟩
theorem IsM.typ {M : Model} {h : Heap} {r : Addr} {its : Array Value} (x : IsM h r its) : Looks M h (typeOf (.ref r)) (.ref 206) := by
  obtain ⟨o, ho, hc, _⟩ := x
  exact hc ▸ (Looks.ld ho).andThen .now
theorem IsM.inst {M : Model} {h : Heap} {r : Addr} {its : Array Value} (x : IsM h r its) (Y : MCls M h) : Looks M h (isInstance (.ref r) (.type "tuple")) true := x.typ.andThen Y.sub
section
variable {prog : Program} {w : World} {A : Around} {E : Value → Shared → Prop} {s : Shared}
theorem call_sub {id n : String} {b : Builtin} {self : Value} {rest : List Value} {Q : Value → Shared → Prop} (hk : builtinKind id = some .slot) (hs : splitId id = some ("tuple", n)) (hp : plainId id = true) (hb : entryFor table id = some b)
    (hi : Looks (model prog w) s.heap (isInstance self (.type "tuple")) true) (ha : argsOk id ⟨self :: rest, []⟩)
    (hc : wpAny (model prog w) A.in1 (b ⟨self :: rest, []⟩) (fun fin s' => ∃ v, fin = .done (.ret v) ∧ Q v s') E s) : wpAny (model prog w) A (call (.builtin id) (self :: rest)) Q E s := by
  refine wpAny_call (codeAny_call_builtin hp hb (check_slot hk hs hi ha (wpAny_mono hc (fun fin s' h' => ?_) fun _ _ h' => h')))
  obtain ⟨v, rfl, hv⟩ := h'; exact hv
theorem iter_match {r : Addr} {its : Array Value} {Q : Value → Shared → Prop} (Y : MCls (model prog w) s.heap) (h : IsM s.heap r its)
    (hQ : Q (.ref s.heap.objs.size) { s with heap := s.heap.push { cls := .type "tuple_iterator", data := .fields #[.ref r, .int 0 0] } }) : wpAny (model prog w) A (pyIter (.ref r)) Q E s := by
  have t1 : Looks (model prog w) s.heap (specialOf (.ref r) "__iter__") (some (.builtin "tuple.__iter__")) := h.typ.andThen Y.iter
  have hb := PySem.F.slot_tuple_iter.bind (.ref r)
  have fin : wpAny (model prog w) A (call (.builtin "tuple.__iter__") [.ref r]) (fun it s' => it = .ref s.heap.objs.size ∧ s' = { s with heap := s.heap.push { cls := .type "tuple_iterator", data := .fields #[.ref r, .int 0 0] } }) E s := by
    refine call_sub (n := "__iter__") (by decide +kernel) (by decide +kernel) (by decide +kernel) PySem.F.entry_tuple_iter (h.inst Y) (PySem.F.args_tuple_iter_1 _) ?_
    show wpAny _ _ (do ret (← newFields "tuple_iterator" [.ref r, rawInt 0])) _ _ s
    exact wpAny_bind (wpAny_newObj_type (wpAny_pure ⟨_, rfl, rfl, rfl⟩))
  have fin' : wpAny (model prog w) A (call (.builtin "tuple.__iter__") [.ref r]) (fun it s' => wpAny (model prog w) A (pure (some it)) (fun (it : Option Value) s' => it = some (.ref s.heap.objs.size) ∧ s' = { s with heap := s.heap.push { cls := .type "tuple_iterator", data := .fields #[.ref r, .int 0 0] } }) E s') E s :=
    wpAny_mono fin (fun it s' h' => wpAny_pure ⟨congrArg some h'.1, h'.2⟩) fun _ _ e => e
  unfold pyIter
  refine wpAny_bind (t1.here ?_)
  dsimp only
  refine wpAny_bind ?_
  refine wpAny_mono (Q := fun it s' => it = some (.ref s.heap.objs.size) ∧ s' = { s with heap := s.heap.push { cls := .type "tuple_iterator", data := .fields #[.ref r, .int 0 0] } }) ?_ (fun it s' h' => ?_) fun _ _ e => e
  · unfold callSpecialIfBoundUnlessNone? bindSpecialIfBound?
    refine wpAny_holding (wpAny_bind (wpAny_bind (t1.here ?_)))
    dsimp only
    refine wpAny_bind (wpAny_askSetting (wpAny_ite ?_))
    split
    · refine wpAny_bind (wpAny_of_eq hb (wpAny_pure ?_))
      exact wpAny_bind fin'
    · refine wpAny_tryCatch (wpAny_bind (wpAny_of_eq hb (wpAny_pure ?_)))
      exact wpAny_bind fin'
  · obtain ⟨rfl, rfl⟩ := h'
    dsimp only
    refine wpAny_bind (wpAny_specialOf (T := "tuple_iterator") ⟨_, Heap.get?_push_size _ rfl, rfl⟩ slot_tupleiter_next.lookup (wpAny_pure hQ))
end
end Mine
end
section
open PySem PySem.W PySem.Calls PySem.Spec PyProof PyProof.Rows
set_option Elab.async false
namespace Mine
set_option linter.unusedVariables false
set_option linter.unusedSimpArgs false
set_option maxRecDepth 100000
/-- an object that holds items in a row, of any class -/
def IsSq (h : Heap) (r : Addr) (its : Array Value) : Prop := ∃ o, h.get? r = some o ∧ ∃ n, o.data = .seq its n
theorem IsM.sq {h : Heap} {r : Addr} {its : Array Value} (x : IsM h r its) : IsSq h r its := let ⟨o, a, _, b⟩ := x; ⟨o, a, b⟩
theorem IsSq.keep {h h' : Heap} {r : Addr} {its : Array Value} (x : IsSq h r its) (k : ∀ o, h.get? r = some o → h'.get? r = some o) : IsSq h' r its := let ⟨o, a, b⟩ := x; ⟨o, k _ a, b⟩
theorem IsM.keep {h h' : Heap} {r : Addr} {its : Array Value} (x : IsM h r its) (k : ∀ o, h.get? r = some o → h'.get? r = some o) : IsM h' r its := let ⟨o, a, b⟩ := x; ⟨o, k _ a, b⟩
section
variable {prog : Program} {w : World} {A : Around} {E : Value → Shared → Prop} {s : Shared}
theorem sq_item {it t : Addr} {i : Nat} {items : Array Value} {x : Value} {Q : Option Value → Shared → Prop} (hit : IsTupIter s.heap it t i) (ht : IsSq s.heap t items) (hx : items[i]? = some x)
    (hQ : ∀ h', IsTupIter h' it t (i + 1) → Heap.SameBut it s.heap h' → Q (some x) { s with heap := h' }) : wpAny (model prog w) A (pyNext (.ref it)) Q E s := by
  obtain ⟨o, ho, hc, hd⟩ := id hit
  obtain ⟨ol, hol, nl, hdl⟩ := ht
  have body : wpAny (model prog w) A.in1 (Builtin.«tuple_iterator.__next__» ⟨[.ref it], []⟩) (fun fin s' => ∃ v, fin = .done (.ret v) ∧ wpAny (model prog w) A (pure (some v)) Q E s') (fun _ _ => False) s := by
    show wpAny _ _ (field (.ref it) 0 >>= _) _ _ s
    refine wpAny_bind (wpAny_field ho hd (x := .ref t) rfl ?_)
    show wpAny _ _ (if (Value.ref t == Value.none) = true then _ else _) _ _ s
    rw [if_neg (show ¬ ((Value.ref t == Value.none) = true) from Bool.false_ne_true)]
    show wpAny _ _ (field (.ref it) 1 >>= _) _ _ s
    refine wpAny_bind (wpAny_field ho hd (x := .int i 0) rfl ?_)
    show wpAny _ _ (seqItems? (.ref t) >>= _) _ _ s
    refine wpAny_bind (wpAny_seqItems hol hdl ?_)
    simp only [Int.toNat_natCast, hx]
    refine wpAny_bind (wpAny_setField ho hd (by simp) (wpAny_pure ⟨x, rfl, wpAny_pure (hQ _ ?_ (Heap.SameBut.update ..))⟩))
    exact ⟨_, Heap.get?_update_self _ ho (Obj.isFreed_of_fields (Obj.data_mapFields hd _)), (Obj.cls_mapFields ..).trans hc, by rw [Obj.data_mapFields hd]; simp [rawInt]⟩
  unfold pyNext
  refine wpAny_bind (wpAny_attempt (wpAny_callSpecial?_slot (name := Str.ofString "__next__") hit.typeIs slot_tupleiter_next
    (wpAny_call_entry slot_tupleiter_next hit.typeIs entry_tupleiter_next (wpAny_mono body (fun _ _ p => p) fun _ _ e => e.elim) (args_tupleiter_next _))))
theorem sq_end {it t : Addr} {i : Nat} {items : Array Value} {Q : Option Value → Shared → Prop} (hh : A.handled = none) (hit : IsTupIter s.heap it t i) (ht : IsSq s.heap t items) (hx : items[i]? = none)
    (hQ : ∀ h', Heap.ExtBut it s.heap h' → Q none { s with heap := h' }) : wpAny (model prog w) A (pyNext (.ref it)) Q E s := by
  obtain ⟨o, ho, hc, hd⟩ := id hit
  obtain ⟨ol, hol, nl, hdl⟩ := ht
  unfold pyNext
  refine wpAny_bind (wpAny_attempt (wpAny_callSpecial?_slot (name := Str.ofString "__next__") hit.typeIs slot_tupleiter_next
    (wpAny_call_entry slot_tupleiter_next hit.typeIs entry_tupleiter_next ?_ (args_tupleiter_next _))))
  show wpAny _ _ (field (.ref it) 0 >>= _) _ _ s
  refine wpAny_bind (wpAny_field ho hd (x := .ref t) rfl ?_)
  show wpAny _ _ (if (Value.ref t == Value.none) = true then _ else _) _ _ s
  rw [if_neg (show ¬ ((Value.ref t == Value.none) = true) from Bool.false_ne_true)]
  show wpAny _ _ (field (.ref it) 1 >>= _) _ _ s
  refine wpAny_bind (wpAny_field ho hd (x := .int i 0) rfl ?_)
  show wpAny _ _ (seqItems? (.ref t) >>= _) _ _ s
  refine wpAny_bind (wpAny_seqItems hol hdl ?_)
  simp only [Int.toNat_natCast, hx]
  refine wpAny_bind (wpAny_rule (wpAny_bind (wpAny_setField ho hd (by simp) ?_)))
  show wpAny _ _ (newExc (.type "StopIteration") [] >>= _) _ _ _
  refine wpAny_bind ?_
  simp only [newExc, newTuple]
  refine wpAny_bind (wpAny_newObj_type ?_ (by size_fits))
  refine wpAny_bind (m := firstArgMember _ _) (wpAny_of_eq (a := Value.none) (by first | rfl | (simp only [firstArgMember]; rfl)) ?_)
  refine wpAny_newObj_type ?_ (by size_fits)
  simp only [raiseNew]
  refine wpAny_bind (wpAny_handled ?_)
  first | rw [show A.in1.handled = none from hh] | rw [hh]
  refine wpAny_bind (wpAny_pure (wpAny_throw ?_))
  refine wpAny_bind (wpAny_isInstance (T := "StopIteration") (b := true) ⟨_, Heap.get?_push_size _ rfl, rfl⟩ isSubtype_stop ?_)
  exact wpAny_pure (hQ _ (((Heap.SameBut.update ..).extBut.push _).push _))
theorem sq_draw {it t : Addr} {items : Array Value} (hne : t ≠ it) : ∀ (n i : Nat) (s : Shared) (Q : List Value → Shared → Prop), IsTupIter s.heap it t i → IsSq s.heap t items → i + n ≤ items.size →
    (∀ h', IsTupIter h' it t (i + n) → Heap.SameBut it s.heap h' → Q ((items.toList.drop i).take n) { s with heap := h' }) → wpAny (model prog w) A (draw (.ref it) n) Q E s
  | 0, i, s, Q, hit, _, _, hQ => wpAny_pure (by simpa using hQ s.heap hit (Heap.SameBut.refl ..))
  | n + 1, i, s, Q, hit, ht, hle, hQ => by
    have hlt : i < items.size := by omega
    show wpAny _ _ (pyNext (.ref it) >>= _) Q E s
    refine wpAny_bind (sq_item hit ht (x := items[i]) (by simp [hlt]) fun h₁ hit₁ hs₁ => ?_)
    refine wpAny_bind (wpAny_holding (sq_draw hne n (i + 1) _ _ hit₁ (ht.keep fun o e => hs₁.extBut t o hne e) (by omega) fun h₂ hit₂ hs₂ => wpAny_pure ?_))
    have hd : items.toList.drop i = items[i] :: items.toList.drop (i + 1) := by simp [List.drop_eq_getElem_cons, hlt]
    have := hQ h₂ (by rw [show i + (n + 1) = i + 1 + n by omega]; exact hit₂) (hs₁.trans hs₂)
    rw [hd, List.take_succ_cons] at this
    exact this
theorem unpack_M {t : Addr} {items : Array Value} {Q : List Value → Shared → Prop} (Y : MCls (model prog w) s.heap) (hh : A.handled = none) (ht : IsM s.heap t items)
    (hQ : ∀ h', Heap.ExtBut s.heap.objs.size s.heap h' → Q items.toList { s with heap := h' }) : wpAny (model prog w) A (unpackItems (.ref t) items.size none) Q E s := by
  have hlt : t ≠ s.heap.objs.size := by obtain ⟨o, ho, _⟩ := ht; exact Nat.ne_of_lt (Heap.lt_size ho)
  have t1 : Looks (model prog w) s.heap (specialOf (.ref t) "__iter__") (some (.builtin "tuple.__iter__")) := ht.typ.andThen Y.iter
  unfold unpackItems
  refine wpAny_bind ?_
  unfold notIterableAtAll
  refine wpAny_bind (t1.here ?_)
  refine wpAny_pure ?_
  simp only [Bool.false_eq_true, if_false]
  refine wpAny_bind (wpAny_holding (iter_match Y ht ?_))
  have hp : ∀ o, s.heap.get? t = some o → (s.heap.push { cls := .type "tuple_iterator", data := .fields #[.ref t, .int 0 0] }).get? t = some o := fun o e => Heap.get?_push_of_some _ e
  refine wpAny_bind (wpAny_holding (sq_draw hlt items.size 0 _ _ ⟨_, Heap.get?_push_size _ rfl, rfl, rfl⟩ (ht.sq.keep hp) (by omega) fun h₁ hit₁ hs₁ => ?_))
  have hall : List.take items.size (List.drop 0 items.toList) = items.toList := by
    rw [List.drop_zero]; exact List.take_of_length_le (by simp)
  rw [hall]
  rw [if_neg (by simp)]
  have ht₁ : IsSq h₁ t items := ht.sq.keep fun o e => hs₁.extBut t o hlt (hp o e)
  refine wpAny_bind (wpAny_holding (sq_end hh hit₁ ht₁ (by simp) fun h₂ he₂ => ?_))
  simp only [Option.isSome_none, Bool.false_eq_true, if_false]
  refine wpAny_pure (hQ h₂ fun b o hb e => he₂ b o hb (hs₁.extBut b o hb (Heap.get?_push_of_some _ e)))
theorem unpackM_K {h₀ : Heap} {L t : Addr} {m : Str → Option Value} {news : List (Addr × Obj)} {items : Array Value} {n : Nat} {Q : List Value → Shared → Prop} (F : Fr h₀ L s.heap m) (N : News h₀ L s.heap news) (Y : MCls (model prog w) h₀) (ht : IsM s.heap t items)
    (hh : A.handled = none) (hn : n = items.size) (h : ∀ h', Fr h₀ L h' m → News h₀ L h' news → (∀ o, s.heap.get? t = some o → h'.get? t = some o) → Q items.toList { s with heap := h' }) : wpAny (model prog w) A (unpackItems (.ref t) n none) Q E s := by
  subst hn
  refine unpack_M ⟨Y.iter.keeps F.keep, Y.lt.keeps F.keep, Y.len.keeps F.keep, Y.sub.keeps F.keep⟩ hh ht fun h' he => h h' (F.extBut he (Nat.le_refl _)) (N.extBut he (Nat.le_refl _)) fun o e => he t o (Nat.ne_of_lt (Heap.lt_size e)) e
theorem assignM_K {h₀ : Heap} {L t : Addr} {m : Str → Option Value} {news : List (Addr × Obj)} {items : Array Value} {env : Env} {elts : List Expr} {k : Nat} {pos : Pos} {Q : Unit → Shared → Prop} (F : Fr h₀ L s.heap m) (N : News h₀ L s.heap news) (Y : MCls (model prog w) h₀) (ht : IsM s.heap t items)
    (hh : A.handled = none) (hn : (assignEach elts env).length = items.size) (hstar : (assignEach elts env).findIdx? (·.1) = none)
    (h : ∀ h', Fr h₀ L h' m → News h₀ L h' news → (∀ o, s.heap.get? t = some o → h'.get? t = some o) → wpAny (model prog w) A (assignInOrder ((assignEach elts env).map (·.2)) items.toList) Q E { s with heap := h' }) : wpAny (model prog w) A (assign (.Tuple elts k pos) env (.ref t)) Q E s := by
  rw [assign_Tuple]
  refine wpAny_bind (wpAny_standAt ?_)
  unfold unpack
  rw [hn, hstar]
  refine wpAny_bind (wpAny_holding ?_)
  exact unpack_M ⟨Y.iter.keeps F.keep, Y.lt.keeps F.keep, Y.len.keeps F.keep, Y.sub.keeps F.keep⟩ hh ht fun h' he => h h' (F.extBut he (Nat.le_refl _)) (N.extBut he (Nat.le_refl _)) fun o e => he t o (Nat.ne_of_lt (Heap.lt_size e)) e
/-- less than, of two of them whose first numbers differ -/
theorem lt_M {a b : Addr} {x y : Int} {tx ty : Tok} {xs ys : List Value} {Q : Bool → Shared → Prop} (hu : A.units < cLine) (Y : MCls (model prog w) s.heap) (ha : IsM s.heap a (.int x tx :: xs).toArray) (hb : IsM s.heap b (.int y ty :: ys).toArray) (hne : x ≠ y)
    (h : ∀ tk, Q (decide (x < y)) { s with toks := tk }) : wpAny (model prog w) A (keyLt' oneType' (.ref a) (.ref b)) Q E s := by
  rw [keyLt'_oneType, oneLt'_eq]
  simp only [if_true]
  have t1 : Looks (model prog w) s.heap (specialOf (.ref a) "__lt__") (some (.builtin "tuple.__lt__")) := ha.typ.andThen Y.lt
  have hbd := PySem.F.slot_tuple_lt.bind (.ref a)
  have fin : wpAny (model prog w) A (call (.builtin "tuple.__lt__") [.ref a, .ref b]) (fun v s' => ∃ tk, v = .bool (decide (x < y)) ∧ s' = { s with toks := tk }) E s := by
    refine call_sub (n := "__lt__") (by decide +kernel) (by decide +kernel) (by decide +kernel) PySem.F.entry_tuple_lt (ha.inst Y) (PySem.F.args_tuple_lt_2 _ _) ?_
    obtain ⟨oa, hoa, _, na, hda⟩ := id ha
    obtain ⟨ob, hob, _, nb, hdb⟩ := id hb
    show wpAny _ _ (do
      let t ← isInstance (.ref b) (.type "tuple")
      if !t then return ← ret .notImplemented
      let xs ← Builtin.Tuple.tupleItemsOf (.ref a)
      let ys ← Builtin.Tuple.tupleItemsOf (.ref b)
      for (x, y) in xs.toList.zip ys.toList do
        if !(← eqBool x y) then
          rule "tuple.compare.by-the-first-pair-that-differs"; return ← ret (← richCompare .Lt x y)
      ret (Builtin.Tuple.tupleCompareSizes .Lt xs.size ys.size)) _ _ s
    refine wpAny_bind ((hb.inst Y).here ?_)
    simp only [Bool.not_true, Bool.false_eq_true, if_false]
    refine wpAny_bind (wpAny_bind (wpAny_seqItems hoa hda (wpAny_pure ?_)))
    refine wpAny_bind (wpAny_bind (wpAny_seqItems hob hdb (wpAny_pure ?_)))
    simp only [List.zip_cons_cons]
    rw [List.forIn_cons]
    refine wpAny_bind (wpAny_bind (wpAny_bind (wpAny_eqBool_int ?_)))
    have e1 : (x == y) = false := by simpa using hne
    rw [e1]
    simp only [Bool.not_false, if_true]
    refine wpAny_bind (wpAny_rule ?_)
    refine wpAny_bind (show wpAny _ _ (compareOp .Lt (.int x tx) (.int y ty)) _ _ _ from ?_)
    refine PySem.P.lt_int ?_
    exact wpAny_bind (wpAny_pure (wpAny_pure (wpAny_pure (wpAny_pure ⟨_, rfl, s.toks, rfl, rfl⟩))))
  refine wpAny_bind (wpAny_cRoomFor hu ?_)
  refine wpAny_bind ?_
  have fin' : wpAny (model prog w) A (call (.builtin "tuple.__lt__") [.ref a, .ref b]) (fun it s' => wpAny (model prog w) A (pure (some it)) (fun (v : Option Value) s' => ∃ tk, v = some (.bool (decide (x < y))) ∧ s' = { s with toks := tk }) E s') E s :=
    wpAny_mono fin (fun it s' h' => wpAny_pure (by obtain ⟨tk, rfl, rfl⟩ := h'; exact ⟨tk, rfl, rfl⟩)) fun _ _ e => e
  refine wpAny_mono (Q := fun v s' => ∃ tk, v = some (.bool (decide (x < y))) ∧ s' = { s with toks := tk }) ?_ (fun it s' h' => ?_) fun _ _ e => e
  · unfold callSpecialIfBound? bindSpecialIfBound?
    refine wpAny_holding (wpAny_bind (wpAny_bind (t1.here ?_)))
    dsimp only
    refine wpAny_bind (wpAny_askSetting (wpAny_ite ?_))
    split
    · refine wpAny_bind (wpAny_of_eq hbd (wpAny_pure ?_))
      exact wpAny_bind fin'
    · refine wpAny_tryCatch (wpAny_bind (wpAny_of_eq hbd (wpAny_pure ?_)))
      exact wpAny_bind fin'
  · obtain ⟨tk, rfl, rfl⟩ := h'
    dsimp only
    exact wpAny_truthy_bool (h tk)
end
end Mine
end
section
open PySem PySem.W PySem.Calls PySem.Spec PyProof PyProof.Rows
set_option Elab.async false
namespace Mine
set_option linter.unusedVariables false
set_option linter.unusedSimpArgs false
set_option maxRecDepth 100000
/-- the values at hand are references to Match objects, written in the ledger -/
def MatsIn (led : List (Addr × Obj)) : List Value → List (Nat × Nat × Nat) → Prop
  | [], [] => True
  | v :: vs, b :: bl => (∃ a x y z dx, v = .ref a ∧ (a, matchObj (.int (b.1 : Nat) x) (.int (b.2.1 : Nat) y) (.int (b.2.2 : Nat) z) dx) ∈ led) ∧ MatsIn led vs bl
  | _, _ => False
theorem MatsIn.more {led led' : List (Addr × Obj)} (hs : ∀ p ∈ led, p ∈ led') : ∀ {vs : List Value} {bl : List (Nat × Nat × Nat)}, MatsIn led vs bl → MatsIn led' vs bl
  | [], [], _ => trivial
  | _ :: _, _ :: _, ⟨⟨a, x, y, z, dx, e, e'⟩, T⟩ => ⟨⟨a, x, y, z, dx, e, hs _ e'⟩, MatsIn.more hs T⟩
  | [], _ :: _, T => T.elim
  | _ :: _, [], T => T.elim
theorem MatsIn.append {led : List (Addr × Obj)} : ∀ {vs : List Value} {bl : List (Nat × Nat × Nat)} {vs' : List Value} {bl' : List (Nat × Nat × Nat)}, MatsIn led vs bl → MatsIn led vs' bl' → MatsIn led (vs ++ vs') (bl ++ bl')
  | [], [], _, _, _, T' => T'
  | _ :: _, _ :: _, _, _, ⟨a, T⟩, T' => ⟨a, MatsIn.append T T'⟩
  | [], _ :: _, _, _, T, _ => T.elim
  | _ :: _, [], _, _, T, _ => T.elim
theorem MatsIn.length {led : List (Addr × Obj)} : ∀ {vs : List Value} {bl : List (Nat × Nat × Nat)}, MatsIn led vs bl → vs.length = bl.length
  | [], [], _ => rfl
  | _ :: _, _ :: _, ⟨_, T⟩ => congrArg (· + 1) (MatsIn.length T)
  | [], _ :: _, T => T.elim
  | _ :: _, [], T => T.elim
theorem MatsIn.get {led : List (Addr × Obj)} : ∀ {vs : List Value} {bl : List (Nat × Nat × Nat)} (_ : MatsIn led vs bl) {i : Nat}, i < bl.length → ∃ b a x y z dx, bl[i]? = some b ∧ vs[i]? = some (.ref a) ∧ (a, matchObj (.int (b.1 : Nat) x) (.int (b.2.1 : Nat) y) (.int (b.2.2 : Nat) z) dx) ∈ led
  | [], [], _, i, h => absurd h (Nat.not_lt_zero _)
  | _ :: _, b :: _, ⟨⟨a, x, y, z, dx, e1, e2⟩, _⟩, 0, _ => by subst e1; exact ⟨b, a, x, y, z, dx, rfl, rfl, e2⟩
  | _ :: _, _ :: _, ⟨_, T⟩, i + 1, h => by
    simp only [List.getElem?_cons_succ]
    exact T.get (by simpa using h)
  | [], _ :: _, T, _, _ => T.elim
  | _ :: _, [], T, _, _ => T.elim
theorem MatsIn.pick {led : List (Addr × Obj)} {vs : List Value} {bl : List (Nat × Nat × Nat)} (T : MatsIn led vs bl) : ∀ (p : List Nat), (∀ i ∈ p, i < bl.length) → MatsIn led (p.map fun i => vs.getD i Value.none) (p.map fun i => bl.getD i (0, 0, 0))
  | [], _ => trivial
  | i :: p, h => by
    obtain ⟨b, a, x, y, z, dx, e1, e2, e3⟩ := T.get (h i (.head _))
    refine ⟨⟨a, x, y, z, dx, ?_, ?_⟩, MatsIn.pick T p fun j hj => h j (.tail _ hj)⟩
    · show vs.getD i Value.none = _; rw [List.getD_eq_getElem?_getD, e2]; rfl
    · have e4 : bl.getD i (0, 0, 0) = b := by rw [List.getD_eq_getElem?_getD, e1]; rfl
      show (a, matchObj (.int ((bl.getD i (0, 0, 0)).1 : Nat) x) (.int ((bl.getD i (0, 0, 0)).2.1 : Nat) y) (.int ((bl.getD i (0, 0, 0)).2.2 : Nat) z) dx) ∈ led
      rw [e4]; exact e3
theorem map_getD_range {α : Type} (d : α) (l : List α) : (List.range l.length).map (fun i => l.getD i d) = l := by
  apply List.ext_getElem
  · simp
  · intro i h1 h2
    simp [h2]
theorem updF_again {d : Addr} {o : Obj} {l : List (Addr × Obj)} {g : Obj → List (Addr × Obj)} (U : UpdF d o l g) (o' : Obj) : UpdF d o' (g o') g := by
  induction U with
  | head h => exact .head h
  | tail h _ ih => exact .tail h ih
section
variable {prog : Program} {w : World} {A : Around} {E : Value → Shared → Prop} {s : Shared} {h₀ : Heap} {L D : Addr} {m : Str → Option Value} {news : List (Addr × Obj)} {vs : List Value} {bl : List (Nat × Nat × Nat)} {n : Nat} {g : Obj → List (Addr × Obj)} {Q : Value → Shared → Prop}
theorem sort_M (hu : A.in1.units < cLine) (F : Fr h₀ L s.heap m) (N : News h₀ L s.heap news) (Y : MCls (model prog w) h₀) (U : UpdF D (W.listOf vs.toArray n) news g) (hm : ∀ o, MatsIn (g o) vs bl) (h2 : 2 ≤ bl.length) (h5 : bl.length ≤ 5) (hn : (bl.map (·.1)).Nodup)
    (h : ∀ h' c vs' bl', bl'.Perm bl → bl'.Pairwise (fun a b => a.1 < b.1) → (∀ o, MatsIn (g o) vs' bl') → Fr h₀ L h' m → News h₀ L h' (g (W.listOf vs'.toArray c)) → ∀ tk, Q .none { s with heap := h', toks := tk }) :
    wpAny (model prog w) A (call (.builtin "list.sort") [.ref D]) Q E s := by
  have hl := (hm default).length
  refine kas_lsort (T := .ref 206) F N U rfl (by simpa [hl] using h2) (by simp [hl]; omega) ?_ (by decide) ?_
  · intro e1 h' F' N' v hv
    have hv : v ∈ vs := by simpa using hv
    obtain ⟨i, hi, rfl⟩ := List.getElem_of_mem hv
    obtain ⟨b, a, x, y, z, dx, e1', e2, e3⟩ := (hm (seqObj "list" #[] e1)).get (i := i) (by omega)
    rw [List.getElem?_eq_getElem hi] at e2
    rw [Option.some.inj e2]
    exact (Looks.ld (N'.get e3)).andThen .now
  · intro e1 h' F' N'
    have hkl : (bl.map (·.1)).length = bl.length := by simp
    obtain ⟨p, hp, hperm, hpw⟩ := sort_keys (xs := bl.map (·.1)) (by omega) (by omega) hn
    rw [hkl] at hp hperm
    have hmem : ∀ i ∈ p.toList, i < bl.length := fun i hi => List.mem_range.mp (hperm.mem_iff.mp hi)
    have hev : vs.toArray.toList = vs := rfl
    rw [hl]
    refine kas_eval (s := { s with heap := h' }) (n := bl.length) (fun i j C tk hi hj hij hC => ?_) (kas_sort bl.length) s.toks hp (fun tk => ?_)
    · obtain ⟨b, a, x, y, z, dx, e1', e2, e3⟩ := (hm (seqObj "list" #[] e1)).get hi
      obtain ⟨b', a', x', y', z', dx', e1'', e2', e3'⟩ := (hm (seqObj "list" #[] e1)).get hj
      unfold kas_ask
      rw [List.getD_eq_getElem?_getD, List.getD_eq_getElem?_getD, e2, e2']
      have k1 : (bl.map (·.1)).getD i 0 = b.1 := by rw [List.getD_eq_getElem?_getD, List.getElem?_map, e1']; rfl
      have k2 : (bl.map (·.1)).getD j 0 = b'.1 := by rw [List.getD_eq_getElem?_getD, List.getElem?_map, e1'']; rfl
      rw [k1, k2] at hC
      have hne : b.1 ≠ b'.1 := by
        intro e
        have hi' : i < (bl.map (·.1)).length := by simpa using hi
        have hj' : j < (bl.map (·.1)).length := by simpa using hj
        rw [← k1, ← k2] at e
        rw [List.getD_eq_getElem?_getD, List.getD_eq_getElem?_getD, List.getElem?_eq_getElem hi', List.getElem?_eq_getElem hj'] at e
        have hpn := List.pairwise_iff_getElem.mp hn
        rcases Nat.lt_or_gt_of_ne hij with q | q
        · exact hpn i j hi' hj' q e
        · exact hpn j i hj' hi' q e.symm
      refine lt_M (s := { s with heap := h', toks := tk }) hu ⟨Y.iter.keeps F'.keep, Y.lt.keeps F'.keep, Y.len.keeps F'.keep, Y.sub.keeps F'.keep⟩ (xs := [_, _]) (ys := [_, _]) ⟨_, N'.get e3, rfl, _, rfl⟩ ⟨_, N'.get e3', rfl, _, rfl⟩ (by omega) (fun tk' => ?_)
      have e : decide ((b.1 : Int) < (b'.1 : Int)) = decide (b.1 < b'.1) := by simp
      rw [e]
      exact hC tk'
    · refine KasFin.intro (s := { s with heap := h', toks := tk }) (g := g) F' N' (updF_again U _) (fun h'' c F'' N'' => ?_)
      have q := h h'' c (p.toList.map fun i => vs.getD i Value.none) (p.toList.map fun i => bl.getD i (0, 0, 0)) ?_ ?_ (fun o => (hm o).pick _ hmem) F'' N'' tk
      · exact q
      · have := hperm.map (fun i => bl.getD i (0, 0, 0))
        rw [map_getD_range] at this
        exact this
      · rw [List.pairwise_map] at hpw ⊢
        refine List.Pairwise.imp_of_mem (fun {a b} ha hb hab => ?_) hpw
        have ka : ∀ a, a < bl.length → (bl.map (·.1)).getD a 0 = (bl.getD a (0, 0, 0)).1 := fun a ha => by
          rw [List.getD_eq_getElem?_getD, List.getD_eq_getElem?_getD, List.getElem?_map, List.getElem?_eq_getElem ha]; rfl
        rw [ka a (hmem a ha), ka b (hmem b hb)] at hab
        exact hab
end
end Mine
end
section
open PySem PySem.W PySem.Calls PySem.Spec PyProof PyProof.Rows
set_option Elab.async false
namespace Mine
set_option linter.unusedVariables false
set_option linter.unusedSimpArgs false
set_option maxRecDepth 100000
section
variable {prog : Program} {w : World} {A : Around} {E : Value → Shared → Prop} {s : Shared} {h₀ : Heap} {L D : Addr} {m : Str → Option Value} {news : List (Addr × Obj)} {vs : List Value} {bl : List (Nat × Nat × Nat)} {n : Nat} {g : Obj → List (Addr × Obj)} {Q : Value → Shared → Prop}
theorem sort_few (F : Fr h₀ L s.heap m) (N : News h₀ L s.heap news) (U : UpdF D (W.listOf vs.toArray n) news g) (hl : vs.length < 2)
    (h : ∀ h' c, Fr h₀ L h' m → News h₀ L h' (g (W.listOf vs.toArray c)) → Q .none { s with heap := h' }) : wpAny (model prog w) A (call (.builtin "list.sort") [.ref D]) Q E s := by
  obtain ⟨pre, post, e0, hg, x1, x2⟩ := U.split
  rw [e0] at N
  have nz := N (D, W.listOf vs.toArray n) (List.mem_append_right _ (.head _))
  have ho : s.heap.get? D = some (seqObj "list" vs.toArray n) := nz.1
  have s1 := Heap.SameBut.update s.heap D (Obj.mapSeq fun _ => (#[] : Array Value))
  obtain ⟨e1, ho1⟩ : ∃ e1, (s.heap.update D (Obj.mapSeq fun _ => (#[] : Array Value))).get? D = some (seqObj "list" #[] e1) := ⟨_, get?_update_seq ho fun _ => #[]⟩
  have F3 : Fr h₀ L (((s.heap.update D (Obj.mapSeq fun _ => (#[] : Array Value))).push (seqObj "tuple" vs.toArray 0)).push (seqObj "list" #[] 0)) m := ((kas_fr F s1 nz.2.1 nz.2.2).push _).push _
  have N3 : News h₀ L (((s.heap.update D (Obj.mapSeq fun _ => (#[] : Array Value))).push (seqObj "tuple" vs.toArray 0)).push (seqObj "list" #[] 0)) (pre ++ (D, seqObj "list" #[] e1) :: post) :=
    (news_set N x1 x2 s1 ho1).grown fun b x e => Heap.get?_push_of_some _ (Heap.get?_push_of_some _ e)
  have ho2 := (N3 (D, seqObj "list" #[] e1) (List.mem_append_right _ (.head _))).1
  refine wpAny_call_entry slot_list_sort ⟨_, nz.1, rfl⟩ entry_list_sort ?_ (args_list_sort _)
  rw [list_sort_plain]
  refine wpAny_bind (listItems_at ho rfl ?_)
  refine wpAny_bind (listUpdate_at ho rfl ?_ (by rw [List.size_toArray, sizeLine_eq]; omega) (Nat.zero_le _))
  refine wpAny_bind (seqEpoch_at ho1 rfl ?_)
  refine wpAny_bind (wpAny_newTuple ?_ (by show vs.length ≤ _; rw [sizeLine_eq]; omega))
  refine wpAny_bind (wpAny_newList ?_ (Nat.zero_le _))
  refine wpAny_holding ?_
  show wpAny (model prog w) _ _ _ E { s with heap := ((s.heap.update D (Obj.mapSeq fun _ => (#[] : Array Value))).push (seqObj "tuple" vs.toArray 0)).push (seqObj "list" #[] 0) }
  dsimp only
  have hn2 : vs.toArray.size < 2 := by rw [List.size_toArray]; omega
  rw [if_pos hn2, if_pos hn2]
  refine wpAny_bind (wpAny_pure ?_)
  refine wpAny_bind ?_
  refine wpAny_of_eq (a := ((), SortSt.mk' general' (vs.toArray.zip vs.toArray) #[] 7 none)) rfl ?_
  have hout : (arrOf (SortSt.mk' general' (vs.toArray.zip vs.toArray) #[] 7 none)).map (·.2) = vs.toArray := by
    show (vs.toArray.zip vs.toArray).map (·.2) = vs.toArray
    have hz : ∀ l : List Value, (l.zip l).map (·.2) = l := fun l => by induction l with
      | nil => rfl
      | cons a l ih => rw [List.zip_cons_cons, List.map_cons, ih]
    simp [hz]
  dsimp only
  rw [hout]
  have s2 := Heap.SameBut.update (((s.heap.update D (Obj.mapSeq fun _ => (#[] : Array Value))).push (seqObj "tuple" vs.toArray 0)).push (seqObj "list" #[] 0)) D (Obj.mapSeq fun _ => vs.toArray)
  obtain ⟨c2, hc2⟩ : ∃ c2, ((((s.heap.update D (Obj.mapSeq fun _ => (#[] : Array Value))).push (seqObj "tuple" vs.toArray 0)).push (seqObj "list" #[] 0)).update D (Obj.mapSeq fun _ => vs.toArray)).get? D = some (seqObj "list" vs.toArray c2) := ⟨_, get?_update_seq ho2 fun _ => vs.toArray⟩
  refine wpAny_bind (seqEpoch_at ho2 rfl ?_)
  refine wpAny_bind (listUpdate_at ho2 rfl ?_ (Nat.zero_le _) (by rw [List.size_toArray, sizeLine_eq]; omega))
  simp only [bne_self_eq_false, Bool.false_eq_true, if_false]
  refine wpAny_pure ⟨_, rfl, h _ c2 (kas_fr F3 s2 nz.2.1 nz.2.2) ?_⟩
  rw [hg]
  exact news_set N3 x1 x2 s2 hc2
theorem sort_all (hu : A.in1.units < cLine) (F : Fr h₀ L s.heap m) (N : News h₀ L s.heap news) (Y : MCls (model prog w) h₀) (U : UpdF D (W.listOf vs.toArray n) news g) (hm : ∀ o, MatsIn (g o) vs bl) (h5 : bl.length ≤ 5) (hn : (bl.map (·.1)).Nodup)
    (h : ∀ h' c vs' bl', bl'.Perm bl → bl'.Pairwise (fun a b => a.1 < b.1) → (∀ o, MatsIn (g o) vs' bl') → Fr h₀ L h' m → News h₀ L h' (g (W.listOf vs'.toArray c)) → ∀ tk, Q .none { s with heap := h', toks := tk }) :
    wpAny (model prog w) A (call (.builtin "list.sort") [.ref D]) Q E s := by
  rcases Nat.lt_or_ge bl.length 2 with h2 | h2
  · have hl := (hm default).length
    refine sort_few F N U (by omega) fun h' c F' N' => h h' c vs bl (.refl _) ?_ hm F' N' s.toks
    match bl, h2 with
    | [], _ => exact .nil
    | [a], _ => exact List.pairwise_singleton _ _
    | _ :: _ :: _, h2 => simp at h2; omega
  · exact sort_M hu F N Y U hm h2 h5 hn h
end
end Mine
end
section
open PySem PySem.W PySem.Calls PySem.Spec PyProof PyProof.Rows
set_option Elab.async false
namespace Mine
set_option linter.unusedVariables false
theorem lcp_ge : ∀ (k : Nat) (x y : List Nat), k ≤ lcp x y ↔ k ≤ x.length ∧ k ≤ y.length ∧ ∀ z, z < k → x[z]? = y[z]?
  | 0, x, y => by simp
  | k + 1, [], y => by simp [lcp]
  | k + 1, a :: x, [] => by simp [lcp]
  | k + 1, a :: x, b :: y => by
    simp only [lcp, List.length_cons]
    split
    · rename_i h
      subst h
      rw [Nat.add_le_add_iff_right, lcp_ge k x y, Nat.add_le_add_iff_right, Nat.add_le_add_iff_right]
      refine and_congr Iff.rfl (and_congr Iff.rfl ⟨fun h z hz => ?_, fun h z hz => ?_⟩)
      · cases z with
        | zero => rfl
        | succ z => simpa using h z (by omega)
      · simpa using h (z + 1) (by omega)
    · rename_i h
      constructor
      · intro q; omega
      · rintro ⟨_, _, q⟩
        have := q 0 (by omega)
        simp at this
        exact absurd this h
/-- where the walk over the pairs has been -/
structure LInv (x y : List Nat) (V : Nat → Nat → Prop) (b : Nat × Nat × Nat) : Prop where
  le : ∀ i j, V i j → lcp (x.drop i) (y.drop j) ≤ b.2.2
  zero : b.2.2 = 0 → b = (0, 0, 0)
  best : 0 < b.2.2 → lcp (x.drop b.1) (y.drop b.2.1) = b.2.2 ∧ V b.1 b.2.1 ∧ ∀ i j, V i j → lcp (x.drop i) (y.drop j) = b.2.2 → b.1 < i ∨ (b.1 = i ∧ b.2.1 ≤ j)
theorem LInv.step {x y : List Nat} {V : Nat → Nat → Prop} {b : Nat × Nat × Nat} {i0 j0 : Nat} (h : LInv x y V b) (hV : ∀ i j, V i j → i < i0 ∨ (i = i0 ∧ j < j0)) {V' : Nat → Nat → Prop} (hV' : ∀ i j, V' i j ↔ V i j ∨ (i = i0 ∧ j = j0)) : LInv x y V' (better x y i0 j0 b) := by
  unfold better
  split
  · rename_i hgt
    refine ⟨fun i j hv => ?_, fun h0 => ?_, fun _ => ⟨rfl, (hV' _ _).mpr (.inr ⟨rfl, rfl⟩), fun i j hv he => ?_⟩⟩
    · rcases (hV' _ _).mp hv with hv | ⟨rfl, rfl⟩
      · have := h.le i j hv; dsimp only; omega
      · exact Nat.le_refl _
    · dsimp only at h0; omega
    · rcases (hV' _ _).mp hv with hv | ⟨rfl, rfl⟩
      · have := h.le i j hv; dsimp only at he; omega
      · exact .inr ⟨rfl, Nat.le_refl _⟩
  · rename_i hng
    refine ⟨fun i j hv => ?_, h.zero, fun hp => ?_⟩
    · rcases (hV' _ _).mp hv with hv | ⟨rfl, rfl⟩
      · exact h.le i j hv
      · omega
    · obtain ⟨h1, h2, h3⟩ := h.best hp
      refine ⟨h1, (hV' _ _).mpr (.inl h2), fun i j hv he => ?_⟩
      rcases (hV' _ _).mp hv with hv | ⟨rfl, rfl⟩
      · exact h3 i j hv he
      · have := hV _ _ h2; omega
theorem row_inv {x y : List Nat} {i0 : Nat} : ∀ n b, LInv x y (fun i j => i < i0 ∧ j < y.length) b → n ≤ y.length → LInv x y (fun i j => (i < i0 ∧ j < y.length) ∨ (i = i0 ∧ j < n)) (row x y i0 n b)
  | 0, b, h, _ => ⟨fun i j hv => h.le i j (by omega), h.zero, fun hp => by
      obtain ⟨h1, h2, h3⟩ := h.best hp
      exact ⟨h1, .inl h2, fun i j hv he => h3 i j (by omega) he⟩⟩
  | n + 1, b, h, hn => by
    rw [row_succ]
    exact (row_inv n b h (by omega)).step (fun i j hv => by omega) fun i j => by omega
theorem rows_inv {x y : List Nat} : ∀ n, LInv x y (fun i j => i < n ∧ j < y.length) (rows x y n)
  | 0 => ⟨fun i j hv => by omega, fun _ => rfl, fun hp => absurd hp (Nat.lt_irrefl 0)⟩
  | n + 1 => by
    rw [rows_succ]
    have := row_inv y.length _ (rows_inv (x := x) (y := y) n) (Nat.le_refl _)
    refine ⟨fun i j hv => this.le i j (by omega), this.zero, fun hp => ?_⟩
    obtain ⟨h1, h2, h3⟩ := this.best hp
    exact ⟨h1, by omega, fun i j hv he => h3 i j (by omega) he⟩
theorem longest_inv (x y : List Nat) : LInv x y (fun i j => i < x.length ∧ j < y.length) (longest x y) := rows_inv _
theorem longest_le (x y : List Nat) (i j : Nat) : lcp (x.drop i) (y.drop j) ≤ (longest x y).2.2 := by
  by_cases h : i < x.length ∧ j < y.length
  · exact (longest_inv x y).le i j h
  · have := lcp_le (x.drop i) (y.drop j)
    simp only [List.length_drop] at this
    omega
/-- f[a:b] -/
def reg (f : List Nat) (a b : Nat) : List Nat := (f.take b).drop a
theorem reg_get (f : List Nat) (a b i : Nat) : (reg f a b)[i]? = if a + i < b then f[a + i]? else none := by
  unfold reg; rw [List.getElem?_drop, List.getElem?_take]
theorem reg_len {f : List Nat} {a b : Nat} (h : b ≤ f.length) : (reg f a b).length = b - a := by
  unfold reg; rw [List.length_drop, List.length_take]; omega
theorem mt_lcp {f g : List Nat} {alo ahi blo bhi i j k : Nat} (ha : ahi ≤ f.length) (hb : bhi ≤ g.length) (hi : alo + i ≤ ahi) (hj : blo + j ≤ bhi) :
    Mt f g alo ahi blo bhi (alo + i) (blo + j) k ↔ k ≤ lcp ((reg f alo ahi).drop i) ((reg g blo bhi).drop j) := by
  rw [lcp_ge]
  simp only [List.length_drop, reg_len ha, reg_len hb, List.getElem?_drop, reg_get]
  constructor
  · intro M
    have a1 := M.a1; have b1 := M.b1
    refine ⟨by omega, by omega, fun z hz => ?_⟩
    rw [if_pos (by omega), if_pos (by omega)]
    have := M.eq z hz
    rwa [Nat.add_assoc, Nat.add_assoc] at this
  · rintro ⟨h1, h2, h3⟩
    refine ⟨by omega, by omega, by omega, by omega, fun z hz => ?_⟩
    have := h3 z hz
    rw [if_pos (by omega), if_pos (by omega)] at this
    rw [Nat.add_assoc, Nat.add_assoc]; exact this
theorem best_longest {f g : List Nat} {alo ahi blo bhi bi bj bs : Nat} (ha : ahi ≤ f.length) (hb : bhi ≤ g.length) (h1 : alo ≤ ahi) (h2 : blo ≤ bhi) (B : BestOf f g alo ahi blo bhi bi bj bs) :
    longest (reg f alo ahi) (reg g blo bhi) = (bi - alo, bj - blo, bs) := by
  have M := B.1
  have a0 := M.a0; have a1 := M.a1; have b0 := M.b0; have b1 := M.b1
  have I := longest_inv (reg f alo ahi) (reg g blo bhi)
  have hfit := longest_fits (reg f alo ahi) (reg g blo bhi)
  have hle := longest_le (reg f alo ahi) (reg g blo bhi) (bi - alo) (bj - blo)
  have hk : bs ≤ lcp ((reg f alo ahi).drop (bi - alo)) ((reg g blo bhi).drop (bj - blo)) :=
    (mt_lcp ha hb (by omega) (by omega)).mp (by rw [show alo + (bi - alo) = bi by omega, show blo + (bj - blo) = bj by omega]; exact M)
  generalize longest (reg f alo ahi) (reg g blo bhi) = b at I hfit hle
  obtain ⟨X, Y, Z⟩ := b
  unfold fits at hfit
  rw [reg_len ha, reg_len hb] at hfit
  dsimp only at hfit hle
  rcases Nat.eq_zero_or_pos Z with hz | hz
  · have e := I.zero hz
    simp only [Prod.mk.injEq] at e
    obtain ⟨rfl, rfl, rfl⟩ := e
    have : bs = 0 := by omega
    subst this
    have := B.zero
    rw [show bi - alo = 0 by omega, show bj - blo = 0 by omega]
  · obtain ⟨e1, e2, e3⟩ := I.best hz
    dsimp only at e1 e2 e3
    have M2 : Mt f g alo ahi blo bhi (alo + X) (blo + Y) Z := (mt_lcp ha hb (by omega) (by omega)).mpr (by omega)
    have q := B.2 _ _ _ M2
    have eZ : Z = bs := by omega
    have q2 := q.2 eZ
    have hp : 0 < bs := by omega
    have q3 := e3 (bi - alo) (bj - blo) (by rw [reg_len ha, reg_len hb]; omega) (by omega)
    simp only [Prod.mk.injEq]
    omega
theorem best_ex {f g : List Nat} {alo ahi blo bhi : Nat} (ha : ahi ≤ f.length) (hb : bhi ≤ g.length) (h1 : alo ≤ ahi) (h2 : blo ≤ bhi) : ∃ bi bj bs, BestOf f g alo ahi blo bhi bi bj bs := by
  have I := longest_inv (reg f alo ahi) (reg g blo bhi)
  have hfit := longest_fits (reg f alo ahi) (reg g blo bhi)
  have hle := longest_le (reg f alo ahi) (reg g blo bhi)
  generalize longest (reg f alo ahi) (reg g blo bhi) = b at I hfit hle
  obtain ⟨X, Y, Z⟩ := b
  unfold fits at hfit
  rw [reg_len ha, reg_len hb] at hfit
  dsimp only at hfit hle
  refine ⟨alo + X, blo + Y, Z, ?_, fun i j k M => ?_⟩
  · rcases Nat.eq_zero_or_pos Z with hz | hz
    · exact ⟨by omega, by omega, by omega, by omega, fun z h => by omega⟩
    · exact (mt_lcp ha hb (by omega) (by omega)).mpr (by have := (I.best hz).1; dsimp only at this; omega)
  · have a0 := M.a0; have a1 := M.a1; have b0 := M.b0; have b1 := M.b1
    have hk : k ≤ lcp ((reg f alo ahi).drop (i - alo)) ((reg g blo bhi).drop (j - blo)) :=
      (mt_lcp ha hb (by omega) (by omega)).mp (by rw [show alo + (i - alo) = i by omega, show blo + (j - blo) = j by omega]; exact M)
    have hl := hle (i - alo) (j - blo)
    refine ⟨by omega, fun e => ?_⟩
    rcases Nat.eq_zero_or_pos Z with hz | hz
    · have e := I.zero hz
      simp only [Prod.mk.injEq] at e
      omega
    · obtain ⟨e1, e2, e3⟩ := I.best hz
      have := e3 (i - alo) (j - blo) (by rw [reg_len ha, reg_len hb]; omega) (by show _ = Z; omega)
      dsimp only at this
      omega
theorem blocksM_fuel : ∀ (n k : Nat) (x y : List Nat) (i j : Nat), x.length < n → x.length < k → blocksM n x y i j = blocksM k x y i j
  | 0, _, _, _, _, _, h, _ => absurd h (Nat.not_lt_zero _)
  | _ + 1, 0, _, _, _, _, _, h => absurd h (Nat.not_lt_zero _)
  | n + 1, k + 1, x, y, i, j, h1, h2 => by
    unfold blocksM
    have hf := longest_fits x y
    unfold fits at hf
    split
    · rfl
    · rw [blocksM_fuel n k _ _ i j (by rw [List.length_take]; omega) (by rw [List.length_take]; omega),
        blocksM_fuel n k (x.drop _) _ _ _ (by rw [List.length_drop]; omega) (by rw [List.length_drop]; omega)]
def blk (f g : List Nat) (alo ahi blo bhi : Nat) : List (Nat × Nat × Nat) := blocksM (ahi + 1) (reg f alo ahi) (reg g blo bhi) alo blo
theorem reg_take {f : List Nat} {a b n : Nat} (h : a + n ≤ b) : (reg f a b).take n = reg f a (a + n) := by
  unfold reg
  rw [List.take_drop, List.take_take, Nat.min_eq_left h]
theorem reg_drop {f : List Nat} {a b n : Nat} : (reg f a b).drop n = reg f (a + n) b := by
  unfold reg; rw [List.drop_drop]
theorem blk_zero {f g : List Nat} {alo ahi blo bhi bi bj : Nat} (ha : ahi ≤ f.length) (hb : bhi ≤ g.length) (h1 : alo ≤ ahi) (h2 : blo ≤ bhi) (B : BestOf f g alo ahi blo bhi bi bj 0) : blk f g alo ahi blo bhi = [] := by
  unfold blk blocksM
  rw [best_longest ha hb h1 h2 B, if_pos rfl]
theorem blk_step {f g : List Nat} {alo ahi blo bhi bi bj bs : Nat} (ha : ahi ≤ f.length) (hb : bhi ≤ g.length) (h1 : alo ≤ ahi) (h2 : blo ≤ bhi) (B : BestOf f g alo ahi blo bhi bi bj bs) (hp : bs ≠ 0) :
    blk f g alo ahi blo bhi = blk f g alo bi blo bj ++ [(bi, bj, bs)] ++ blk f g (bi + bs) ahi (bj + bs) bhi := by
  have M := B.1
  have a0 := M.a0; have a1 := M.a1; have b0 := M.b0; have b1 := M.b1
  unfold blk
  conv => lhs; unfold blocksM
  rw [best_longest ha hb h1 h2 B, if_neg hp]
  dsimp only
  rw [show alo + (bi - alo) = bi by omega, show blo + (bj - blo) = bj by omega, reg_take (by omega), reg_take (by omega), reg_drop, reg_drop,
    show alo + (bi - alo) = bi by omega, show blo + (bj - blo) = bj by omega, show alo + (bi - alo + bs) = bi + bs by omega, show blo + (bj - blo + bs) = bj + bs by omega,
    blocksM_fuel ahi (bi + 1) _ _ alo blo (by rw [reg_len (by omega)]; omega) (by rw [reg_len (by omega)]; omega),
    blocksM_fuel ahi (ahi + 1) _ _ (bi + bs) (bj + bs) (by rw [reg_len (by omega)]; omega) (by rw [reg_len (by omega)]; omega)]
theorem blk_none {f g : List Nat} {alo ahi blo bhi : Nat} (ha : ahi ≤ f.length) (hb : bhi ≤ g.length) (h : ahi ≤ alo ∨ bhi ≤ blo) : blk f g alo ahi blo bhi = [] := by
  unfold blk blocksM
  have hf := longest_fits (reg f alo ahi) (reg g blo bhi)
  unfold fits at hf
  rw [reg_len ha, reg_len hb] at hf
  rw [if_pos (by omega)]
/-- one block ahead of another, and they don't touch -/
def Ahead (a b : Nat × Nat × Nat) : Prop := a.1 + a.2.2 ≤ b.1 ∧ a.2.1 + a.2.2 ≤ b.2.1 ∧ ¬ (a.1 + a.2.2 = b.1 ∧ a.2.1 + a.2.2 = b.2.1)
theorem blk_ok {f g : List Nat} : ∀ (n alo ahi blo bhi : Nat), ahi - alo ≤ n → ahi ≤ f.length → bhi ≤ g.length → alo ≤ ahi → blo ≤ bhi →
    (∀ b ∈ blk f g alo ahi blo bhi, Mt f g alo ahi blo bhi b.1 b.2.1 b.2.2 ∧ 0 < b.2.2) ∧ (blk f g alo ahi blo bhi).Pairwise Ahead := by
  intro n
  induction n with
  | zero =>
    intro alo ahi blo bhi hn ha hb h1 h2
    rw [blk_none ha hb (.inl (by omega))]
    exact ⟨(fun b h => nomatch h), .nil⟩
  | succ n ih =>
    intro alo ahi blo bhi hn ha hb h1 h2
    obtain ⟨bi, bj, bs, B⟩ := best_ex ha hb h1 h2
    rcases Nat.eq_zero_or_pos bs with hz | hz
    · subst hz
      rw [blk_zero ha hb h1 h2 B]
      exact ⟨(fun b h => nomatch h), .nil⟩
    · have M := B.1
      have a0 := M.a0; have a1 := M.a1; have b0 := M.b0; have b1 := M.b1
      rw [blk_step ha hb h1 h2 B (by omega)]
      obtain ⟨l1, l2⟩ := ih alo bi blo bj (by omega) (by omega) (by omega) a0 b0
      obtain ⟨r1, r2⟩ := ih (bi + bs) ahi (bj + bs) bhi (by omega) ha hb a1 b1
      refine ⟨fun b hb' => ?_, ?_⟩
      · rcases List.mem_append.mp hb' with hb' | hb'
        · rcases List.mem_append.mp hb' with hb' | hb'
          · obtain ⟨m, p⟩ := l1 b hb'
            have c0 := m.a0; have c1 := m.a1; have c2 := m.b0; have c3 := m.b1
            exact ⟨⟨c0, by omega, c2, by omega, m.eq⟩, p⟩
          · rw [List.mem_singleton.mp hb']; exact ⟨M, hz⟩
        · obtain ⟨m, p⟩ := r1 b hb'
          have c0 := m.a0; have c1 := m.a1; have c2 := m.b0; have c3 := m.b1
          exact ⟨⟨by omega, c1, by omega, c3, m.eq⟩, p⟩
      · refine List.pairwise_append.mpr ⟨List.pairwise_append.mpr ⟨l2, List.pairwise_singleton _ _, fun a ha' b hb' => ?_⟩, r2, fun a ha' b hb' => ?_⟩
        · rw [List.mem_singleton.mp hb']
          obtain ⟨m, p⟩ := l1 a ha'
          have c0 := m.a0; have c1 := m.a1; have c2 := m.b0; have c3 := m.b1
          refine ⟨c1, c3, ?_⟩
          rintro ⟨q1, q2⟩
          dsimp only at q1 q2
          have := m.eq (a.2.2 - 1) (by omega)
          rw [show a.1 + (a.2.2 - 1) = bi - 1 by omega, show a.2.1 + (a.2.2 - 1) = bj - 1 by omega] at this
          exact B.before (by omega) (by omega) this
        · obtain ⟨m, p⟩ := r1 b hb'
          have c0 := m.a0; have c1 := m.a1; have c2 := m.b0; have c3 := m.b1
          rcases List.mem_append.mp ha' with ha' | ha'
          · obtain ⟨m', p'⟩ := l1 a ha'
            have d0 := m'.a0; have d1 := m'.a1; have d2 := m'.b0; have d3 := m'.b1
            exact ⟨by omega, by omega, by omega⟩
          · rw [List.mem_singleton.mp ha']
            refine ⟨c0, c2, ?_⟩
            rintro ⟨q1, q2⟩
            dsimp only at q1 q2
            have := m.eq 0 p
            rw [← q1, ← q2] at this
            exact B.behind (by omega) (by omega) this
theorem ahead_count {ahi bhi : Nat} : ∀ (l : List (Nat × Nat × Nat)) (b : Nat × Nat × Nat), (∀ c ∈ b :: l, c.1 + c.2.2 ≤ ahi ∧ c.2.1 + c.2.2 ≤ bhi ∧ 0 < c.2.2) → (b :: l).Pairwise Ahead → 3 * (l.length + 1) + b.1 + b.2.1 ≤ ahi + bhi + 1
  | [], b, h, _ => by
    have := h b (.head _)
    simp only [List.length_nil]; omega
  | c :: l, b, h, hp => by
    have h1 := h b (.head _)
    obtain ⟨p1, p2⟩ := List.pairwise_cons.mp hp
    have h2 := p1 c (.head _)
    have ih := ahead_count l c (fun d hd => h d (.tail _ hd)) p2
    unfold Ahead at h2
    simp only [List.length_cons]
    omega
theorem blk_count {f g : List Nat} (hf : f.length = 8) (hg : g.length = 8) : (blk f g 0 8 0 8).length ≤ 5 := by
  obtain ⟨h1, h2⟩ := blk_ok (f := f) (g := g) 8 0 8 0 8 (by omega) (by omega) (by omega) (by omega) (by omega)
  cases hb : blk f g 0 8 0 8 with
  | nil => exact Nat.zero_le _
  | cons b l =>
    rw [hb] at h1 h2
    have := ahead_count (ahi := 8) (bhi := 8) l b (fun c hc => ⟨(h1 c hc).1.a1, (h1 c hc).1.b1, (h1 c hc).2⟩) h2
    simp only [List.length_cons]; omega
theorem ahead_lt {l : List (Nat × Nat × Nat)} (h : l.Pairwise Ahead) (hp : ∀ b ∈ l, 0 < b.2.2) : l.Pairwise (fun a b => a.1 < b.1) :=
  List.Pairwise.imp_of_mem (fun {a b} ha hb hab => by have := hp a ha; unfold Ahead at hab; omega) h
theorem sorted_eq : ∀ {l l' : List (Nat × Nat × Nat)}, l.Perm l' → l.Pairwise (fun a b => a.1 < b.1) → l'.Pairwise (fun a b => a.1 < b.1) → l = l' := by
  intro l
  induction l with
  | nil => intro l' h _ _; exact (List.Perm.nil_eq h)
  | cons a l ih =>
    intro l' h h1 h2
    cases l' with
    | nil => exact absurd h.length_eq (by simp)
    | cons b l' =>
      obtain ⟨p1, p2⟩ := List.pairwise_cons.mp h1
      obtain ⟨q1, q2⟩ := List.pairwise_cons.mp h2
      have ha : a ∈ b :: l' := h.mem_iff.mp (.head _)
      have hb : b ∈ a :: l := h.mem_iff.mpr (.head _)
      have e : a = b := by
        rcases List.mem_cons.mp ha with e | ha
        · exact e
        · rcases List.mem_cons.mp hb with e | hb
          · exact e.symm
          · have := p1 b hb; have := q1 a ha; omega
      subst e
      rw [ih (List.Perm.cons_inv h) p2 q2]
theorem okB_of {l : List (Nat × Nat × Nat)} : ∀ {i j : Nat}, l.Pairwise Ahead → (∀ b ∈ l, i ≤ b.1 ∧ j ≤ b.2.1 ∧ b.1 + b.2.2 ≤ 8 ∧ b.2.1 + b.2.2 ≤ 8) → i ≤ 8 → j ≤ 8 → okB i j (l ++ [(8, 8, 0)]) := by
  induction l with
  | nil => intro i j _ _ hi hj; exact ⟨hi, hj, by show 8 + 0 ≤ 8; omega, by show 8 + 0 ≤ 8; omega⟩
  | cons a l ih =>
    intro i j hp hb hi hj
    obtain ⟨p1, p2⟩ := List.pairwise_cons.mp hp
    have ha := hb a (.head _)
    refine ⟨ha.1, ha.2.1, ih p2 (fun b hb' => ?_) ha.2.2.1 ha.2.2.2⟩
    have := p1 b hb'
    have := hb b (.tail _ hb')
    unfold Ahead at *
    omega
theorem blk_is {f g : List Nat} (hf : f.length = 8) (hg : g.length = 8) : blk f g 0 8 0 8 = blocksM 9 f g 0 0 := by
  unfold blk reg
  rw [List.drop_zero, List.drop_zero, List.take_of_length_le (by omega), List.take_of_length_le (by omega)]
end Mine
end
section
open PySem PySem.W PySem.Calls PySem.Spec PyProof PyProof.Rows
set_option Elab.async false
namespace Mine
set_option linter.unusedVariables false
set_option linter.unusedSimpArgs false
/-- the values at hand are references to tuples of four ints, written in the ledger -/
def RegsIn (led : List (Addr × Obj)) : List Value → List (Nat × Nat × Nat × Nat) → Prop
  | [], [] => True
  | v :: vs, b :: bl => (∃ a x y z u, v = .ref a ∧ (a, { cls := .type "tuple", data := .seq #[.int (b.1 : Nat) x, .int (b.2.1 : Nat) y, .int (b.2.2.1 : Nat) z, .int (b.2.2.2 : Nat) u] }) ∈ led) ∧ RegsIn led vs bl
  | _, _ => False
theorem RegsIn.more {led led' : List (Addr × Obj)} (hs : ∀ p ∈ led, p ∈ led') : ∀ {vs : List Value} {bl : List (Nat × Nat × Nat × Nat)}, RegsIn led vs bl → RegsIn led' vs bl
  | [], [], _ => trivial
  | _ :: _, _ :: _, ⟨⟨a, x, y, z, u, e, e'⟩, T⟩ => ⟨⟨a, x, y, z, u, e, hs _ e'⟩, RegsIn.more hs T⟩
  | [], _ :: _, T => T.elim
  | _ :: _, [], T => T.elim
theorem RegsIn.append {led : List (Addr × Obj)} : ∀ {vs : List Value} {bl : List (Nat × Nat × Nat × Nat)} {vs' : List Value} {bl' : List (Nat × Nat × Nat × Nat)}, RegsIn led vs bl → RegsIn led vs' bl' → RegsIn led (vs ++ vs') (bl ++ bl')
  | [], [], _, _, _, T' => T'
  | _ :: _, _ :: _, _, _, ⟨a, T⟩, T' => ⟨a, RegsIn.append T T'⟩
  | [], _ :: _, _, _, T, _ => T.elim
  | _ :: _, [], _, _, T, _ => T.elim
theorem RegsIn.length {led : List (Addr × Obj)} : ∀ {vs : List Value} {bl : List (Nat × Nat × Nat × Nat)}, RegsIn led vs bl → vs.length = bl.length
  | [], [], _ => rfl
  | _ :: _, _ :: _, ⟨_, T⟩ => congrArg (· + 1) (RegsIn.length T)
  | [], _ :: _, T => T.elim
  | _ :: _, [], T => T.elim
theorem RegsIn.last {led : List (Addr × Obj)} : ∀ {vs : List Value} {bl : List (Nat × Nat × Nat × Nat)} {b : Nat × Nat × Nat × Nat}, RegsIn led vs (bl ++ [b]) → ∃ vs' a x y z u, vs = vs' ++ [.ref a] ∧ RegsIn led vs' bl ∧ (a, ({ cls := .type "tuple", data := .seq #[.int (b.1 : Nat) x, .int (b.2.1 : Nat) y, .int (b.2.2.1 : Nat) z, .int (b.2.2.2 : Nat) u] } : Obj)) ∈ led
  | [], bl, b, T => by cases bl <;> exact T.elim
  | v :: vs, [], b, ⟨⟨a, x, y, z, u, e, e'⟩, T⟩ => by
    cases vs with
    | nil => exact ⟨[], a, x, y, z, u, by rw [e]; rfl, trivial, e'⟩
    | cons _ _ => exact T.elim
  | v :: vs, c :: bl, b, ⟨h, T⟩ => by
    obtain ⟨vs', a, x, y, z, u, e1, e2, e3⟩ := RegsIn.last T
    exact ⟨v :: vs', a, x, y, z, u, by rw [e1]; rfl, ⟨h, e2⟩, e3⟩
abbrev Reg := Nat × Nat × Nat × Nat
def okReg (r : Reg) : Prop := r.1 ≤ r.2.1 ∧ r.2.1 ≤ 8 ∧ r.2.2.1 ≤ r.2.2.2 ∧ r.2.2.2 ≤ 8
def qsum (l : List Reg) : Nat := (l.map fun r => 2 * (r.2.1 - r.1) + 1).sum
def qblk (f g : List Nat) (l : List Reg) : List (Nat × Nat × Nat) := l.flatMap fun r => blk f g r.1 r.2.1 r.2.2.1 r.2.2.2
theorem qsum_app (a b : List Reg) : qsum (a ++ b) = qsum a + qsum b := by unfold qsum; rw [List.map_append, List.sum_append]
theorem qsum_one (r : Reg) : qsum [r] = 2 * (r.2.1 - r.1) + 1 := rfl
theorem qblk_app (f g : List Nat) (a b : List Reg) : qblk f g (a ++ b) = qblk f g a ++ qblk f g b := by unfold qblk; rw [List.flatMap_append]
theorem qblk_one (f g : List Nat) (r : Reg) : qblk f g [r] = blk f g r.1 r.2.1 r.2.2.1 r.2.2.2 := by unfold qblk; simp
theorem qsum_len : ∀ l : List Reg, l.length ≤ qsum l
  | [] => Nat.zero_le _
  | r :: l => by have := qsum_len l; unfold qsum at *; simp only [List.map_cons, List.sum_cons, List.length_cons]; omega
theorem perm_mid {fd q l r t : List (Nat × Nat × Nat)} {m : Nat × Nat × Nat} (h : (fd ++ (q ++ (l ++ [m] ++ r))).Perm t) : (fd ++ [m] ++ (q ++ (l ++ r))).Perm t := by
  refine List.Perm.trans ?_ h
  rw [List.append_assoc]
  refine List.Perm.append_left fd ?_
  rw [← List.append_assoc q, ← List.append_assoc q, ← List.append_assoc q, List.singleton_append]
  rw [List.append_assoc (q ++ l) [m] r, List.singleton_append]
  exact List.perm_middle.symm
/-- the frame of get_matching_blocks in the while -/
abbrev frM (xI q mb : Addr) (ta tb : Tok) (w1 w2 w3 w4 w5 w6 w7 w8 : Option Value) : Str → Option Value := fun (v : Str) =>
  if v = "x" then w8 else if v = "k" then w7 else if v = "j" then w6 else if v = "i" then w5 else if v = "bhi" then w4 else if v = "blo" then w3 else if v = "ahi" then w2 else if v = "alo" then w1 else
  if v = "matching_blocks" then some (.ref mb) else if v = "queue" then some (.ref q) else if v = "la" then some (.int (8 : Int) ta) else if v = "lb" then some (.int (8 : Int) tb) else if v = "self" then some (.ref xI) else none
theorem kl_last_app (qs : List Value) (v : Value) : kl_last (qs ++ [v]) = some (qs, v) := by
  induction qs with
  | nil => rfl
  | cons a qs ih =>
    cases qs with
    | nil => rfl
    | cons b qs => rw [List.cons_append, List.cons_append, kl_last]; rw [List.cons_append] at ih; rw [ih]
theorem less_base {h₀ h : Heap} {L : Addr} {m : Str → Option Value} {own : List (Addr × Obj)} (F : Fr h₀ L h m) (N : News h₀ L h own) {b : Addr} {o : Obj} (e : h₀.get? b = some o) : (less h own).get? b = some o :=
  hideAll_get _ (F.keep b o e) fun q => by
    obtain ⟨p, hp, rfl⟩ := List.mem_map.mp q
    rw [(N p hp).2.2] at e; cases e
theorem news_ne {h₀ h : Heap} {L : Addr} {n1 n2 : List (Addr × Obj)} (N1 : News h₀ L h n1) (N2 : News h₀ L h n2) {a b : Addr} {o o' : Obj} (h1 : (a, o) ∈ n1) (h2 : (b, o') ∈ n2) (hc : o.cls ≠ o'.cls) : a ≠ b := fun e => by
  have e1 := N1.get h1
  have e2 := N2.get h2
  rw [e, e2] at e1
  cases e1
  exact hc rfl
def JW (f g : List Nat) (xI dI b2 jk qA mb : Addr) (oA oE oJ : Obj) (ta tb : Tok) (n : Nat) (m' : Str → Option Value) (nw : List (Addr × Obj)) : Prop :=
  ∃ (queue : List Reg) (found : List (Nat × Nat × Nat)) (qv fv : List Value) (kq kf : Nat) (tl : List (Addr × Obj)) (w1 w2 w3 w4 w5 w6 w7 w8 : Option Value),
      m' = frM xI qA mb ta tb w1 w2 w3 w4 w5 w6 w7 w8 ∧
      nw = (qA, W.listOf qv.toArray kq) :: (mb, W.listOf fv.toArray kf) :: (xI, instObj 313 dI) :: (dI, oA) :: (b2, oE) :: (jk, oJ) :: tl ∧
      (∀ p ∈ tl, p.1 ≠ qA) ∧ (∀ p ∈ tl, p.1 ≠ mb) ∧ (∀ p ∈ tl, p.1 ≠ xI) ∧ (∀ p ∈ tl, p.1 ≠ dI) ∧ (∀ p ∈ tl, p.1 ≠ b2) ∧ (∀ p ∈ tl, p.1 ≠ jk) ∧
      RegsIn tl qv queue ∧ MatsIn tl fv found ∧ (∀ r ∈ queue, okReg r) ∧ qsum queue = n ∧ n ≤ 17 ∧ (found ++ qblk f g queue).Perm (blk f g 0 8 0 8)
def JD (f g : List Nat) (xI dI b2 jk qA mb : Addr) (oA oE oJ : Obj) (ta tb : Tok) (m' : Str → Option Value) (nw : List (Addr × Obj)) : Prop :=
  ∃ (found : List (Nat × Nat × Nat)) (fv : List Value) (kq kf : Nat) (tl : List (Addr × Obj)) (w1 w2 w3 w4 w5 w6 w7 w8 : Option Value),
      m' = frM xI qA mb ta tb w1 w2 w3 w4 w5 w6 w7 w8 ∧
      nw = (qA, W.listOf ([] : List Value).toArray kq) :: (mb, W.listOf fv.toArray kf) :: (xI, instObj 313 dI) :: (dI, oA) :: (b2, oE) :: (jk, oJ) :: tl ∧
      (∀ p ∈ tl, p.1 ≠ qA) ∧ (∀ p ∈ tl, p.1 ≠ mb) ∧ (∀ p ∈ tl, p.1 ≠ xI) ∧ (∀ p ∈ tl, p.1 ≠ dI) ∧ (∀ p ∈ tl, p.1 ≠ b2) ∧ (∀ p ∈ tl, p.1 ≠ jk) ∧
      MatsIn tl fv found ∧ found.Perm (blk f g 0 8 0 8)
/-- a turn of the while that has found a block -/
structure GC (f g : List Nat) (xI dI b2 jk qA mb rm : Addr) (qs : List Reg) (found : List (Nat × Nat × Nat)) (qv' fv : List Value) (tl : List (Addr × Obj)) (alo ahi blo bhi bi bj bs n : Nat) : Prop where
  hlf : f.length = 8
  hlg : g.length = 8
  o1 : ∀ p ∈ tl, p.1 ≠ qA
  o2 : ∀ p ∈ tl, p.1 ≠ mb
  o3 : ∀ p ∈ tl, p.1 ≠ xI
  o4 : ∀ p ∈ tl, p.1 ≠ dI
  o5 : ∀ p ∈ tl, p.1 ≠ b2
  o6 : ∀ p ∈ tl, p.1 ≠ jk
  e1 : rm ≠ qA
  e2 : rm ≠ mb
  e3 : rm ≠ xI
  e4 : rm ≠ dI
  e5 : rm ≠ b2
  e6 : rm ≠ jk
  hR : RegsIn tl qv' qs
  hM : MatsIn tl fv found
  hok : ∀ r ∈ qs ++ [(alo, ahi, blo, bhi)], okReg r
  hsum : qsum (qs ++ [(alo, ahi, blo, bhi)]) = n
  hn17 : n ≤ 17
  hperm : (found ++ qblk f g (qs ++ [(alo, ahi, blo, bhi)])).Perm (blk f g 0 8 0 8)
  hB : BestOf f g alo ahi blo bhi bi bj bs
section
variable {f g : List Nat} {xI dI b2 jk qA mb rm : Addr} {oA oE oJ : Obj} {ta tb v1 v2 v3 : Tok} {dm : Addr} {qs : List Reg} {found : List (Nat × Nat × Nat)} {qv' fv : List Value} {tl : List (Addr × Obj)} {alo ahi blo bhi bi bj bs n : Nat} {h₀ : Heap} {L' : Addr} {w1 w2 w3 w4 w5 w6 w7 w8 : Option Value}
  {h : Heap} {tk : Nat} {S0 : Shared} {kq' kf' : Nat} {z1 z2 z3 z4 z5 z6 z7 z8 : Tok}
theorem gmb_key (C : GC f g xI dI b2 jk qA mb rm qs found qv' fv tl alo ahi blo bhi bi bj bs n) (hbs : (bs : Int) ≠ 0)
    (new : List (Addr × Obj)) (ql : List Reg) (qlv : List Value)
    (hnew : ∀ p ∈ new, qA < p.1 ∧ mb < p.1 ∧ xI < p.1 ∧ dI < p.1 ∧ b2 < p.1 ∧ jk < p.1) (hRq : RegsIn new qlv ql) (hokq : ∀ r ∈ ql, okReg r) (hq : qblk f g ql = blk f g alo bi blo bj ++ blk f g (bi + bs) ahi (bj + bs) bhi) (hqs : qsum ql ≤ (2 * (bi - alo) + 1) + (2 * (ahi - (bi + bs)) + 1))
    (F : Fr h₀ L' h (frM xI qA mb ta tb w1 w2 w3 w4 w5 w6 w7 w8))
    (N : News h₀ L' h ((qA, W.listOf (qv' ++ qlv).toArray kq') :: (mb, W.listOf (fv ++ [Value.ref rm]).toArray kf') :: (xI, instObj 313 dI) :: (dI, oA) :: (b2, oE) :: (jk, oJ) :: (new ++ (rm, matchObj (.int (bi : Nat) v1) (.int (bj : Nat) v2) (.int (bs : Nat) v3) dm) :: tl))) :
    WhileStep h₀ L' S0 (JW f g xI dI b2 jk qA mb oA oE oJ ta tb) n .next { S0 with heap := h, toks := tk } := by
  obtain ⟨hlf, hlg, o1, o2, o3, o4, o5, o6, e1, e2, e3, e4, e5, e6, hR, hM, hok, hsum, hn17, hperm, hB⟩ := C
  have hbs' : bs ≠ 0 := by omega
  have hrk := hok (alo, ahi, blo, bhi) (List.mem_append_right _ (.head _))
  unfold okReg at hrk
  dsimp only at hrk
  obtain ⟨r1, r2, r3, r4⟩ := hrk
  have M := hB.1
  have a0 := M.a0; have a1 := M.a1; have b0 := M.b0; have b1 := M.b1
  have hstep := blk_step (by omega) (by omega) r1 r3 hB hbs'
  rw [qsum_app, qsum_one] at hsum
  dsimp only at hsum
  have hlt : ∀ (P : Addr) (hP : ∀ p ∈ new, P < p.1) (hr : rm ≠ P) (ht : ∀ p ∈ tl, p.1 ≠ P), ∀ p ∈ new ++ (rm, matchObj (.int (bi : Nat) v1) (.int (bj : Nat) v2) (.int (bs : Nat) v3) dm) :: tl, p.1 ≠ P := by
    intro P hP hr ht p hp
    rcases List.mem_append.mp hp with hp | hp
    · exact Nat.ne_of_gt (hP p hp)
    · rcases List.mem_cons.mp hp with rfl | hp
      · exact hr
      · exact ht p hp
  refine WhileStep.intro (n' := qsum (qs ++ ql)) F N (by rw [qsum_app]; omega) ⟨qs ++ ql, found ++ [(bi, bj, bs)], _, _, _, _, _, _, _, _, _, _, _, _, _, rfl, rfl,
    hlt _ (fun p hp => (hnew p hp).1) e1 o1, hlt _ (fun p hp => (hnew p hp).2.1) e2 o2, hlt _ (fun p hp => (hnew p hp).2.2.1) e3 o3, hlt _ (fun p hp => (hnew p hp).2.2.2.1) e4 o4, hlt _ (fun p hp => (hnew p hp).2.2.2.2.1) e5 o5, hlt _ (fun p hp => (hnew p hp).2.2.2.2.2) e6 o6,
    ?_, ?_, ?_, rfl, by rw [qsum_app]; omega, ?_⟩
  · exact (hR.more fun p hp => List.mem_append_right _ (.tail _ hp)).append (hRq.more fun p hp => List.mem_append_left _ hp)
  · exact (hM.more fun p hp => List.mem_append_right _ (.tail _ hp)).append ⟨⟨rm, v1, v2, v3, dm, rfl, List.mem_append_right _ (.head _)⟩, trivial⟩
  · intro r hr
    rcases List.mem_append.mp hr with hr | hr
    · exact hok r (List.mem_append_left _ hr)
    · exact hokq r hr
  · rw [qblk_app, hq]
    rw [qblk_app, qblk_one] at hperm
    dsimp only at hperm
    rw [hstep] at hperm
    exact perm_mid hperm
abbrev tup4 (a b c d : Int) (x y z u : Tok) : Obj := { cls := .type "tuple", data := .seq #[.int a x, .int b y, .int c z, .int d u] }
theorem gmb_fit (C : GC f g xI dI b2 jk qA mb rm qs found qv' fv tl alo ahi blo bhi bi bj bs n) : alo ≤ bi ∧ bi + bs ≤ ahi ∧ blo ≤ bj ∧ bj + bs ≤ bhi ∧ ahi ≤ 8 ∧ bhi ≤ 8 := by
  have hrk := C.hok (alo, ahi, blo, bhi) (List.mem_append_right _ (.head _))
  unfold okReg at hrk
  have M := C.hB.1
  have a0 := M.a0; have a1 := M.a1; have b0 := M.b0; have b1 := M.b1
  dsimp only at hrk
  omega
theorem gmb_LR (C : GC f g xI dI b2 jk qA mb rm qs found qv' fv tl alo ahi blo bhi bi bj bs n) (hbs : (bs : Int) ≠ 0) {D1 D2 : Addr} (l1 : qA < D1 ∧ mb < D1 ∧ xI < D1 ∧ dI < D1 ∧ b2 < D1 ∧ jk < D1 ∧ rm < D1 ∧ AllLt D1 tl) (l2 : D1 < D2 ∧ qA < D2 ∧ mb < D2 ∧ xI < D2 ∧ dI < D2 ∧ b2 < D2 ∧ jk < D2 ∧ rm < D2 ∧ AllLt D2 tl)
    (F : Fr h₀ L' h (frM xI qA mb ta tb w1 w2 w3 w4 w5 w6 w7 w8))
    (N : News h₀ L' h ((D2, tup4 ((bi : Int) + (bs : Int)) (ahi : Int) ((bj : Int) + (bs : Int)) (bhi : Int) z1 z2 z3 z4) :: (D1, tup4 (alo : Int) (bi : Int) (blo : Int) (bj : Int) z5 z6 z7 z8) :: (qA, W.listOf ((qv'.toArray.push (.ref D1)).push (.ref D2)) kq') :: (mb, W.listOf (fv.toArray.push (.ref rm)) kf') :: (xI, instObj 313 dI) :: (dI, oA) :: (b2, oE) :: (jk, oJ) :: (rm, matchObj (.int (bi : Nat) v1) (.int (bj : Nat) v2) (.int (bs : Nat) v3) dm) :: tl)) :
    WhileStep h₀ L' S0 (JW f g xI dI b2 jk qA mb oA oE oJ ta tb) n .next { S0 with heap := h, toks := tk } := by
  obtain ⟨c1, c2, c3, c4, c5, c6⟩ := gmb_fit C
  obtain ⟨m1, m2, m3, m4, m5, m6, _⟩ := l1
  obtain ⟨_, n1, n2, n3, n4, n5, n6, _⟩ := l2
  refine gmb_key (v1 := v1) (v2 := v2) (v3 := v3) (dm := dm) (qlv := [.ref D1, .ref D2]) (ql := [(alo, bi, blo, bj), (bi + bs, ahi, bj + bs, bhi)]) (new := [(D2, tup4 ((bi + bs : Nat) : Int) (ahi : Int) ((bj + bs : Nat) : Int) (bhi : Int) z1 z2 z3 z4), (D1, tup4 (alo : Int) (bi : Int) (blo : Int) (bj : Int) z5 z6 z7 z8)]) (kq' := kq') (kf' := kf') C hbs ?_ ?_ ?_ ?_ ?_ F (news_sub N ?_)
  · intro p hp
    rcases List.mem_cons.mp hp with rfl | hp
    · exact ⟨n1, n2, n3, n4, n5, n6⟩
    · rw [List.mem_singleton.mp hp]; exact ⟨m1, m2, m3, m4, m5, m6⟩
  · exact ⟨⟨D1, _, _, _, _, rfl, .tail _ (.head _)⟩, ⟨D2, _, _, _, _, rfl, .head _⟩, trivial⟩
  · intro r hr
    rcases List.mem_cons.mp hr with rfl | hr
    · unfold okReg; dsimp only; omega
    · rw [List.mem_singleton.mp hr]; unfold okReg; dsimp only; omega
  · unfold qblk; simp
  · unfold qsum; simp
  · intro p hp
    simp only [List.push_toArray, List.append_assoc, List.cons_append, List.nil_append, List.mem_cons, ← Int.natCast_add] at hp ⊢
    rcases hp with h | h | h | h | h | h | h | h | h | h <;> simp [h]
theorem gmb_L (C : GC f g xI dI b2 jk qA mb rm qs found qv' fv tl alo ahi blo bhi bi bj bs n) (hbs : (bs : Int) ≠ 0) {D1 : Addr} (l1 : qA < D1 ∧ mb < D1 ∧ xI < D1 ∧ dI < D1 ∧ b2 < D1 ∧ jk < D1 ∧ rm < D1 ∧ AllLt D1 tl) (hno : ¬ ((bi : Int) + (bs : Int) < (ahi : Int)) ∨ ¬ ((bj : Int) + (bs : Int) < (bhi : Int)))
    (F : Fr h₀ L' h (frM xI qA mb ta tb w1 w2 w3 w4 w5 w6 w7 w8))
    (N : News h₀ L' h ((D1, tup4 (alo : Int) (bi : Int) (blo : Int) (bj : Int) z1 z2 z3 z4) :: (qA, W.listOf (qv'.toArray.push (.ref D1)) kq') :: (mb, W.listOf (fv.toArray.push (.ref rm)) kf') :: (xI, instObj 313 dI) :: (dI, oA) :: (b2, oE) :: (jk, oJ) :: (rm, matchObj (.int (bi : Nat) v1) (.int (bj : Nat) v2) (.int (bs : Nat) v3) dm) :: tl)) :
    WhileStep h₀ L' S0 (JW f g xI dI b2 jk qA mb oA oE oJ ta tb) n .next { S0 with heap := h, toks := tk } := by
  obtain ⟨c1, c2, c3, c4, c5, c6⟩ := gmb_fit C
  obtain ⟨m1, m2, m3, m4, m5, m6, _⟩ := l1
  have l1 := C.hlf; have l2 := C.hlg
  refine gmb_key (v1 := v1) (v2 := v2) (v3 := v3) (dm := dm) (qlv := [.ref D1]) (ql := [(alo, bi, blo, bj)]) (new := [(D1, tup4 (alo : Int) (bi : Int) (blo : Int) (bj : Int) z1 z2 z3 z4)]) (kq' := kq') (kf' := kf') C hbs ?_ ?_ ?_ ?_ ?_ F (news_sub N ?_)
  · intro p hp
    rw [List.mem_singleton.mp hp]; exact ⟨m1, m2, m3, m4, m5, m6⟩
  · exact ⟨⟨D1, _, _, _, _, rfl, .head _⟩, trivial⟩
  · intro r hr
    rw [List.mem_singleton.mp hr]; unfold okReg; dsimp only; omega
  · rw [qblk_one, blk_none (alo := bi + bs) (by omega) (by omega) (by omega), List.append_nil]
  · unfold qsum; simp
  · intro p hp
    simp only [List.push_toArray, List.append_assoc, List.cons_append, List.nil_append, List.mem_cons, ← Int.natCast_add] at hp ⊢
    rcases hp with h | h | h | h | h | h | h | h | h <;> simp [h]
theorem gmb_R (C : GC f g xI dI b2 jk qA mb rm qs found qv' fv tl alo ahi blo bhi bi bj bs n) (hbs : (bs : Int) ≠ 0) {D1 : Addr} (l1 : qA < D1 ∧ mb < D1 ∧ xI < D1 ∧ dI < D1 ∧ b2 < D1 ∧ jk < D1 ∧ rm < D1 ∧ AllLt D1 tl) (hno : ¬ ((alo : Int) < (bi : Int)) ∨ ¬ ((blo : Int) < (bj : Int)))
    (F : Fr h₀ L' h (frM xI qA mb ta tb w1 w2 w3 w4 w5 w6 w7 w8))
    (N : News h₀ L' h ((D1, tup4 ((bi : Int) + (bs : Int)) (ahi : Int) ((bj : Int) + (bs : Int)) (bhi : Int) z1 z2 z3 z4) :: (qA, W.listOf (qv'.toArray.push (.ref D1)) kq') :: (mb, W.listOf (fv.toArray.push (.ref rm)) kf') :: (xI, instObj 313 dI) :: (dI, oA) :: (b2, oE) :: (jk, oJ) :: (rm, matchObj (.int (bi : Nat) v1) (.int (bj : Nat) v2) (.int (bs : Nat) v3) dm) :: tl)) :
    WhileStep h₀ L' S0 (JW f g xI dI b2 jk qA mb oA oE oJ ta tb) n .next { S0 with heap := h, toks := tk } := by
  obtain ⟨c1, c2, c3, c4, c5, c6⟩ := gmb_fit C
  obtain ⟨m1, m2, m3, m4, m5, m6, _⟩ := l1
  have l1 := C.hlf; have l2 := C.hlg
  refine gmb_key (v1 := v1) (v2 := v2) (v3 := v3) (dm := dm) (qlv := [.ref D1]) (ql := [(bi + bs, ahi, bj + bs, bhi)]) (new := [(D1, tup4 ((bi + bs : Nat) : Int) (ahi : Int) ((bj + bs : Nat) : Int) (bhi : Int) z1 z2 z3 z4)]) (kq' := kq') (kf' := kf') C hbs ?_ ?_ ?_ ?_ ?_ F (news_sub N ?_)
  · intro p hp
    rw [List.mem_singleton.mp hp]; exact ⟨m1, m2, m3, m4, m5, m6⟩
  · exact ⟨⟨D1, _, _, _, _, rfl, .head _⟩, trivial⟩
  · intro r hr
    rw [List.mem_singleton.mp hr]; unfold okReg; dsimp only; omega
  · rw [qblk_one, blk_none (alo := alo) (ahi := bi) (by omega) (by omega) (by omega), List.nil_append]
  · unfold qsum; simp
  · intro p hp
    simp only [List.push_toArray, List.append_assoc, List.cons_append, List.nil_append, List.mem_cons, ← Int.natCast_add] at hp ⊢
    rcases hp with h | h | h | h | h | h | h | h | h <;> simp [h]
theorem gmb_N (C : GC f g xI dI b2 jk qA mb rm qs found qv' fv tl alo ahi blo bhi bi bj bs n) (hbs : (bs : Int) ≠ 0) (hno1 : ¬ ((alo : Int) < (bi : Int)) ∨ ¬ ((blo : Int) < (bj : Int))) (hno2 : ¬ ((bi : Int) + (bs : Int) < (ahi : Int)) ∨ ¬ ((bj : Int) + (bs : Int) < (bhi : Int)))
    (F : Fr h₀ L' h (frM xI qA mb ta tb w1 w2 w3 w4 w5 w6 w7 w8))
    (N : News h₀ L' h ((qA, W.listOf qv'.toArray kq') :: (mb, W.listOf (fv.toArray.push (.ref rm)) kf') :: (xI, instObj 313 dI) :: (dI, oA) :: (b2, oE) :: (jk, oJ) :: (rm, matchObj (.int (bi : Nat) v1) (.int (bj : Nat) v2) (.int (bs : Nat) v3) dm) :: tl)) :
    WhileStep h₀ L' S0 (JW f g xI dI b2 jk qA mb oA oE oJ ta tb) n .next { S0 with heap := h, toks := tk } := by
  obtain ⟨c1, c2, c3, c4, c5, c6⟩ := gmb_fit C
  have l1 := C.hlf; have l2 := C.hlg
  refine gmb_key (v1 := v1) (v2 := v2) (v3 := v3) (dm := dm) (qlv := []) (ql := []) (new := []) (kq' := kq') (kf' := kf') C hbs (fun _ h => nomatch h) trivial (fun _ h => nomatch h) ?_ (Nat.zero_le _) F (news_sub N ?_)
  · rw [blk_none (alo := alo) (ahi := bi) (by omega) (by omega) (by omega), blk_none (alo := bi + bs) (by omega) (by omega) (by omega)]; rfl
  · intro p hp
    simpa using hp
theorem gmb_Z (C : GC f g xI dI b2 jk qA mb rm qs found qv' fv tl alo ahi blo bhi bi bj bs n) (hbs : (bs : Int) = 0)
    (F : Fr h₀ L' h (frM xI qA mb ta tb w1 w2 w3 w4 w5 w6 w7 w8))
    (N : News h₀ L' h ((qA, W.listOf qv'.toArray kq') :: (mb, W.listOf fv.toArray kf') :: (xI, instObj 313 dI) :: (dI, oA) :: (b2, oE) :: (jk, oJ) :: (rm, matchObj (.int (bi : Nat) v1) (.int (bj : Nat) v2) (.int (bs : Nat) v3) dm) :: tl)) :
    WhileStep h₀ L' S0 (JW f g xI dI b2 jk qA mb oA oE oJ ta tb) n .next { S0 with heap := h, toks := tk } := by
  obtain ⟨c1, c2, c3, c4, c5, c6⟩ := gmb_fit C
  obtain ⟨hlf, hlg, o1, o2, o3, o4, o5, o6, e1, e2, e3, e4, e5, e6, hR, hM, hok, hsum, hn17, hperm, hB⟩ := C
  obtain rfl : bs = 0 := by omega
  rw [qsum_app, qsum_one] at hsum
  dsimp only at hsum
  refine WhileStep.intro (n' := qsum qs) F (news_sub N (led := (qA, W.listOf qv'.toArray kq') :: (mb, W.listOf fv.toArray kf') :: (xI, instObj 313 dI) :: (dI, oA) :: (b2, oE) :: (jk, oJ) :: tl) ?_) (by omega) ⟨qs, found, _, _, _, _, _, _, _, _, _, _, _, _, _, rfl, rfl, o1, o2, o3, o4, o5, o6, hR, hM, fun r hr => hok r (List.mem_append_left _ hr), rfl, by omega, ?_⟩
  · intro p hp
    simp only [List.mem_cons] at hp ⊢
    rcases hp with h | h | h | h | h | h | h <;> simp [h]
  · rw [qblk_app, qblk_one] at hperm
    dsimp only at hperm
    rw [blk_zero (by omega) (by omega) (by omega) (by omega) hB, List.append_nil] at hperm
    exact hperm
end
theorem MatsIn.drop {led led' : List (Addr × Obj)} (hs : ∀ p ∈ led, p ∈ led' ∨ p.2.cls ≠ .ref 206) : ∀ {vs : List Value} {bl : List (Nat × Nat × Nat)}, MatsIn led vs bl → MatsIn led' vs bl
  | [], [], _ => trivial
  | _ :: _, _ :: _, ⟨⟨a, x, y, z, dx, e, e'⟩, T⟩ => ⟨⟨a, x, y, z, dx, e, (hs _ e').resolve_right fun h => h rfl⟩, MatsIn.drop hs T⟩
  | [], _ :: _, T => T.elim
  | _ :: _, [], T => T.elim
def curOk (B : List (Nat × Nat × Nat)) (z : Nat) (c : Nat × Nat × Nat) : Prop := (z = 0 ∧ c = (0, 0, 0)) ∨ (0 < z ∧ B[z - 1]? = some c)
abbrev frNV (xI q mb na : Addr) (ta tb : Tok) (V1 V2 V3 : Value) (u1 u2 u3 w1 w2 w3 w4 w5 w6 w7 w8 : Option Value) : Str → Option Value := fun (v : Str) =>
  if v = "k2" then u3 else if v = "j2" then u2 else if v = "i2" then u1 else if v = "k1" then some V3 else if v = "j1" then some V2 else if v = "i1" then some V1 else
  if v = "non_adjacent" then some (.ref na) else frM xI q mb ta tb w1 w2 w3 w4 w5 w6 w7 w8 v
abbrev frN (xI q mb na : Addr) (ta tb : Tok) (c : Nat × Nat × Nat) (x1 x2 x3 : Tok) (u1 u2 u3 w1 w2 w3 w4 w5 w6 w7 w8 : Option Value) : Str → Option Value := fun (v : Str) =>
  if v = "k2" then u3 else if v = "j2" then u2 else if v = "i2" then u1 else if v = "k1" then some (.int (c.2.2 : Nat) x3) else if v = "j1" then some (.int (c.2.1 : Nat) x2) else if v = "i1" then some (.int (c.1 : Nat) x1) else
  if v = "non_adjacent" then some (.ref na) else frM xI q mb ta tb w1 w2 w3 w4 w5 w6 w7 w8 v
def JM (B : List (Nat × Nat × Nat)) (xI qA mb na : Addr) (R0 : List (Addr × Obj)) (ta tb : Tok) (w1 w2 w3 w4 w5 w6 w7 w8 : Option Value) (z : Nat) (m' : Str → Option Value) (nw : List (Addr × Obj)) : Prop :=
  ∃ (c : Nat × Nat × Nat) (nv : List Value) (kn : Nat) (tn : List (Addr × Obj)) (x1 x2 x3 : Tok) (u1 u2 u3 : Option Value), m' = frN xI qA mb na ta tb c x1 x2 x3 u1 u2 u3 w1 w2 w3 w4 w5 w6 w7 w8 ∧
    nw = (na, W.listOf nv.toArray kn) :: (tn ++ R0) ∧ TupsIn tn nv (B.take (z - 1)) ∧ curOk B z c ∧ (∀ p ∈ tn, p.1 ≠ na)
theorem cur_cases {B : List (Nat × Nat × Nat)} (hA : B.Pairwise Ahead) (hp : ∀ b ∈ B, 0 < b.2.2) {i : Nat} {c b : Nat × Nat × Nat} (hc : curOk B i c) (hb : B[i]? = some b) :
    (i = 0 ∧ c = (0, 0, 0)) ∨ (0 < i ∧ 0 < c.2.2 ∧ ¬ (c.1 + c.2.2 = b.1 ∧ c.2.1 + c.2.2 = b.2.1) ∧ B.take i = B.take (i - 1) ++ [c]) := by
  rcases hc with h | ⟨h, hc⟩
  · exact .inl h
  · refine .inr ⟨h, hp c (List.mem_of_getElem? hc), ?_, ?_⟩
    · have hi : i < B.length := by
        rcases Nat.lt_or_ge i B.length with h | h
        · exact h
        · rw [List.getElem?_eq_none h] at hb; cases hb
      have := List.pairwise_iff_getElem.mp hA (i - 1) i (by omega) hi (by omega)
      rw [List.getElem?_eq_getElem (by omega)] at hc hb
      rw [Option.some.inj hc, Option.some.inj hb] at this
      exact this.2.2
    · have : i = i - 1 + 1 := by omega
      conv => lhs; rw [this]
      rw [List.take_add_one, hc]; rfl
section
variable {B : List (Nat × Nat × Nat)} {xI qA mb na : Addr} {R0 own TT tn : List (Addr × Obj)} {ta tb : Tok} {u1 u2 u3 w1 w2 w3 w4 w5 w6 w7 w8 : Option Value} {i c1 c2 c3 b1 b2 b3 kn : Nat} {nv : List Value} {x1 x2 x3 : Tok} {h₀ h : Heap} {L : Addr} {tk : Nat} {S0 : Shared}
theorem mrg_A (hb : B[i]? = some (b1, b2, b3)) (hcase : (i = 0 ∧ (c1, c2, c3) = (0, 0, 0)) ∨ (0 < i ∧ 0 < c3 ∧ ¬ (c1 + c3 = b1 ∧ c2 + c3 = b2) ∧ B.take i = B.take (i - 1) ++ [(c1, c2, c3)])) (q1 : (c1 : Int) + (c3 : Int) = (b1 : Int)) (q2 : (c2 : Int) + (c3 : Int) = (b2 : Int))
    (hT : TupsIn tn nv (B.take (i - 1))) (htn : ∀ p ∈ tn, p.1 ≠ na) (hoff : OwnOff own (((na, W.listOf nv.toArray kn) :: (tn ++ R0)).map (·.1))) (hTT : tn ++ R0 ++ own = TT)
    (F : Fr h₀ L h (frNV xI qA mb na ta tb (.int (c1 : Nat) x1) (.int (c2 : Nat) x2) (.int ((c3 : Int) + (b3 : Int)) x3) u1 u2 u3 w1 w2 w3 w4 w5 w6 w7 w8)) (N : News h₀ L h ((na, W.listOf nv.toArray kn) :: TT)) :
    TurnT h₀ L (JM B xI qA mb na R0 ta tb w1 w2 w3 w4 w5 w6 w7 w8 (i + 1)) own S0 .next { S0 with heap := h, toks := tk } := by
  rcases hcase with ⟨rfl, e⟩ | ⟨_, _, hne, _⟩
  · simp only [Prod.mk.injEq] at e
    obtain ⟨rfl, rfl, rfl⟩ := e
    subst hTT
    rw [show ((0 : Nat) : Int) + (b3 : Int) = ((b3 : Nat) : Int) by omega] at F
    refine ⟨rfl, InvEndG.intro F N ⟨(0, 0, b3), nv, kn, tn, x1, x2, x3, u1, u2, u3, rfl, rfl, hT, .inr ⟨by omega, ?_⟩, htn⟩ hoff (fun p hp => ?_) fun p hp => ?_⟩
    · rw [show 0 + 1 - 1 = 0 by omega, hb]
      rw [show b1 = 0 by omega, show b2 = 0 by omega]
    · rcases List.mem_cons.mp hp with rfl | hp
      · exact .head _
      · exact .tail _ (List.mem_append_left _ hp)
    · exact .tail _ (List.mem_append_right _ hp)
  · omega
theorem mrg_B (hb : B[i]? = some (b1, b2, b3)) (hcase : (i = 0 ∧ (c1, c2, c3) = (0, 0, 0)) ∨ (0 < i ∧ 0 < c3 ∧ ¬ (c1 + c3 = b1 ∧ c2 + c3 = b2) ∧ B.take i = B.take (i - 1) ++ [(c1, c2, c3)])) (q1 : (c3 : Int) ≠ 0) {D : Addr} (l1 : na < D ∧ AllLt D TT)
    (hT : TupsIn tn nv (B.take (i - 1))) (htn : ∀ p ∈ tn, p.1 ≠ na) {k0 : Nat} (hoff : OwnOff own (((na, W.listOf nv.toArray k0) :: (tn ++ R0)).map (·.1))) (hTT : tn ++ R0 ++ own = TT) {z1 z2 z3 : Tok}
    (F : Fr h₀ L h (frNV xI qA mb na ta tb (.int (b1 : Nat) x1) (.int (b2 : Nat) x2) (.int (b3 : Int) x3) u1 u2 u3 w1 w2 w3 w4 w5 w6 w7 w8)) (N : News h₀ L h ((D, tup3 (c1, c2, c3) z1 z2 z3) :: (na, W.listOf (nv.toArray.push (.ref D)) kn) :: TT)) :
    TurnT h₀ L (JM B xI qA mb na R0 ta tb w1 w2 w3 w4 w5 w6 w7 w8 (i + 1)) own S0 .next { S0 with heap := h, toks := tk } := by
  rcases hcase with ⟨rfl, e⟩ | ⟨hi, _, hne, htk⟩
  · simp only [Prod.mk.injEq] at e
    omega
  · subst hTT
    have hall := allLt_ne l1.2 (Nat.le_refl _)
    rw [List.push_toArray] at N
    refine ⟨rfl, InvEndG.intro F N ⟨(b1, b2, b3), nv ++ [.ref D], kn, (D, tup3 (c1, c2, c3) z1 z2 z3) :: tn, x1, x2, x3, u1, u2, u3, rfl, rfl, ?_, .inr ⟨by omega, by rw [show i + 1 - 1 = i by omega]; exact hb⟩, ?_⟩ ?_ (fun p hp => ?_) fun p hp => ?_⟩
    · rw [show i + 1 - 1 = i by omega, htk]
      exact (hT.more fun p hp => .tail _ hp).append ⟨⟨D, z1, z2, z3, rfl, .head _⟩, trivial⟩
    · intro p hp
      rcases List.mem_cons.mp hp with rfl | hp
      · exact Nat.ne_of_gt l1.1
      · exact htn p hp
    · intro p hp b hb'
      rcases List.mem_cons.mp hb' with rfl | hb'
      · exact hoff p hp _ (.head _)
      rcases List.mem_cons.mp hb' with rfl | hb'
      · exact hall p (List.mem_append_right _ hp)
      · exact hoff p hp b (.tail _ hb')
    · rcases List.mem_cons.mp hp with rfl | hp
      · exact .tail _ (.head _)
      rcases List.mem_cons.mp hp with rfl | hp
      · exact .head _
      · exact .tail _ (.tail _ (List.mem_append_left _ hp))
    · exact .tail _ (.tail _ (List.mem_append_right _ hp))
theorem mrg_C (hb : B[i]? = some (b1, b2, b3)) (hcase : (i = 0 ∧ (c1, c2, c3) = (0, 0, 0)) ∨ (0 < i ∧ 0 < c3 ∧ ¬ (c1 + c3 = b1 ∧ c2 + c3 = b2) ∧ B.take i = B.take (i - 1) ++ [(c1, c2, c3)])) (q1 : (c3 : Int) = 0)
    (hT : TupsIn tn nv (B.take (i - 1))) (htn : ∀ p ∈ tn, p.1 ≠ na) (hoff : OwnOff own (((na, W.listOf nv.toArray kn) :: (tn ++ R0)).map (·.1))) (hTT : tn ++ R0 ++ own = TT)
    (F : Fr h₀ L h (frNV xI qA mb na ta tb (.int (b1 : Nat) x1) (.int (b2 : Nat) x2) (.int (b3 : Int) x3) u1 u2 u3 w1 w2 w3 w4 w5 w6 w7 w8)) (N : News h₀ L h ((na, W.listOf nv.toArray kn) :: TT)) :
    TurnT h₀ L (JM B xI qA mb na R0 ta tb w1 w2 w3 w4 w5 w6 w7 w8 (i + 1)) own S0 .next { S0 with heap := h, toks := tk } := by
  rcases hcase with ⟨rfl, e⟩ | ⟨_, _, hne, _⟩
  · subst hTT
    refine ⟨rfl, InvEndG.intro F N ⟨(b1, b2, b3), nv, kn, tn, x1, x2, x3, u1, u2, u3, rfl, rfl, hT, .inr ⟨by omega, hb⟩, htn⟩ hoff (fun p hp => ?_) fun p hp => ?_⟩
    · rcases List.mem_cons.mp hp with rfl | hp
      · exact .head _
      · exact .tail _ (List.mem_append_left _ hp)
    · exact .tail _ (List.mem_append_right _ hp)
  · omega
theorem mrg_last {c : Nat × Nat × Nat} {z : Nat} (hc : B.take z ++ [c] = B) (hT : TupsIn tn nv (B.take z)) (htn : ∀ p ∈ tn, p.1 ≠ na) (hTT : tn ++ R0 = TT) {D : Addr} (l1 : na < D ∧ AllLt D TT) {m : Str → Option Value} {z1 z2 z3 : Tok}
    (F : Fr h₀ L h m) (N : News h₀ L h ((D, tup3 c z1 z2 z3) :: (na, W.listOf (nv.toArray.push (.ref D)) kn) :: TT)) :
    ∃ (nv' : List Value) (kn' : Nat) (tn' : List (Addr × Obj)) (h' : Heap) (tk' : Nat), Flow.next = .next ∧ ({ S0 with heap := h, toks := tk } : Shared) = { S0 with heap := h', toks := tk' } ∧ TupsIn tn' nv' B ∧ (∀ p ∈ tn', p.1 ≠ na) ∧ Fr h₀ L h' m ∧ News h₀ L h' ((na, W.listOf nv'.toArray kn') :: (tn' ++ R0)) := by
  rw [List.push_toArray, ← hTT] at N
  refine ⟨nv ++ [.ref D], kn, (D, tup3 c z1 z2 z3) :: tn, h, tk, rfl, rfl, ?_, ?_, F, news_sub N ?_⟩
  · rw [← hc]
    exact (hT.more fun p hp => .tail _ hp).append ⟨⟨D, _, _, _, rfl, .head _⟩, trivial⟩
  · intro p hp
    rcases List.mem_cons.mp hp with rfl | hp
    · exact Nat.ne_of_gt l1.1
    · exact htn p hp
  · intro p hp
    rcases List.mem_cons.mp hp with rfl | hp
    · exact .tail _ (.head _)
    rcases List.mem_cons.mp hp with rfl | hp
    · exact .head _
    · exact .tail _ (.tail _ hp)
end
end Mine
end
section
open PySem PySem.W PySem.Calls PySem.Spec PyProof PyProof.Rows
set_option Elab.async false
namespace Mine
set_option linter.unusedVariables false
set_option linter.unusedSimpArgs false
/-- as PurK, for a call that a builtin makes -/
def PurA (w : World) (f : Addr) (vs : List Value) (D U : Nat) (P : Heap → Prop) (R : Heap → Value → Heap → Prop) : Prop :=
  ∀ (A : Around) (h₀ : Heap) (L : Addr) (m : Str → Option Value) (s : Shared) (Rr : Result → Shared → Prop),
    Site w A h₀ L s.heap m → A.depth + D < recursionLimit → A.units + U < cLine → P s.heap →
    (∀ r h' tk', s.heap.StaysIn h' → R s.heap r h' → Rr (.ok (.ret r)) { s with heap := h', toks := tk' }) →
    codeAny (model pw w) A (.call (.ref f) ⟨vs, []⟩) Rr s
section
variable {w : World} {D U : Nat} {P : Heap → Prop} {Rp : Heap → Value → Heap → Prop} {name qual : Str} {params : Arguments} {body : List Stmt} {scope : Scope} {dV kV doc pm cdv ct oc : Value} {an od : Option Addr} {osl : Array (Option Value)} {f : Addr} {vs : List Value} {binds : List (Str × Value)}
theorem purA_intro (hD : 1 ≤ D)
    (ho : (Kx w.params).lookup f = some ⟨oc, od, .func (fnOf name qual params body scope dV kV doc pm an cdv ct), osl⟩) (hcd : codeIn (Kx w.params) cdv qual = true)
    (hbind : ∀ s : Shared, (Kx w.params).In s.heap → BindsTo s (fnOf name qual params body scope dV kV doc pm an cdv ct) ⟨vs, []⟩ binds) (hloc : ∀ y ∈ binds, scope.names.lookup y.1 = some .local)
    (h : ∀ (dp un : Nat) (gd : Option (List Code)) (env : Env) (outer : List Env) (base : Heap) (mean : ExcName → Option Value) (mg mb : Str → Option Value) (s : Shared) (E : Value → Shared → Prop) (L' : Addr) (h₁ : Heap) (tk : Nat), dp + D < recursionLimit → un + U < cLine → P s.heap →
      Fr s.heap L' h₁ (fun y => binds.reverse.lookup y) → News s.heap L' h₁ [] → Below (topE dp un gd env outer) base (env :: outer) s.heap → (Kx w.params).In s.heap → Top vw lsW mean mg mb s.heap →
      wpAny (model pw w) ((topE dp un gd env outer).deeper (envOf qual scope L' f cdv)) (execs body (envOf qual scope L' f cdv))
        (fun fl s' => PEnd Rp s (match fl with | .ret v => v | _ => .none) s')
        (fun e s' => wpAny (model pw w) ((topE dp un gd env outer).deeper (envOf qual scope L' f cdv)) (leaving (envOf qual scope L' f cdv) e) (fun _ s'' => E e s'') (fun e' s'' => E e' s'') s')
        { s with heap := h₁, toks := tk })
    (hco : scope.isCoroutine = false) (hgen : scope.isGenerator = false) (hk : scope.kind = .function)
    (hcell : ∀ x ∈ scope.names, x.2 ≠ .cell) : PurA w f vs D U P Rp := by
  intro A h₀ L m s Rr S hd hu hP hret
  obtain ⟨hh, F, env, outer, A₀, base, mean, mg, mb, hA, hf', hke, B, X, T⟩ := S
  obtain ⟨hd', dp, fr, gd, un⟩ := A
  dsimp only at hh hA hd hu
  subst hh
  subst hA
  refine code_pur (R := Rr) (Rp := Rp) B F X T rfl hf' hke (fun r h' tk' a b => hret r h' tk' a b) ho hcd (show dp < recursionLimit by omega) (hbind s (X.keeps F.keep)) hloc (fun L' h₁ F' N' B' X' T' => ?_) hco hgen hk hcell
  exact h dp un gd env outer base mean mg mb s (fun e s'' => Rr (.error e) s'') L' h₁ _ hd hu hP F' N' B' X' T'
end
section
variable {prog : Program} {w : World} {A : Around} {E : Value → Shared → Prop} {s : Shared}
theorem len_M {t : Addr} {items : Array Value} {Q : Value → Shared → Prop} (Y : MCls (model prog w) s.heap) (ht : IsM s.heap t items) (hsz : items.size < 1000)
    (h : Q (.int items.size (s.toks + 1)) { s with toks := s.toks + 1 + 1 }) : wpAny (model prog w) A (call (.builtin "len") [.ref t]) Q E s := by
  obtain ⟨o, ho, hc, n, hd⟩ := id ht
  have t1 : Looks (model prog w) s.heap (specialOf (.ref t) "__len__") (some (.builtin "tuple.__len__")) := ht.typ.andThen Y.len
  have hb := slot_tuple_len.bind (.ref t)
  refine Calls.call_function_entry kind_len plain_len entry_len (args_len1 _) ?_
  unfold Builtin.«len»
  refine wpAny_bind (m := oneArg "len" _) (wpAny_pure ?_)
  unfold callSpecial?
  refine wpAny_bind (wpAny_bind (t1.here ?_))
  dsimp only
  refine wpAny_holding (wpAny_bind (wpAny_of_eq hb ?_))
  dsimp only
  refine wpAny_bind (call_sub (n := "__len__") (by decide +kernel) (by decide +kernel) (by decide +kernel) entry_tuple_len (ht.inst Y) (args_tuple_len _) ?_)
  show wpAny _ _ (do retInt (← Builtin.Tuple.tupleItemsOf (.ref t)).size) _ _ s
  refine wpAny_bind (wpAny_bind (wpAny_seqItems ho hd (wpAny_pure ?_)))
  refine wpAny_bind (wpAny_mkInt (wpAny_pure ⟨_, rfl, wpAny_pure ?_⟩))
  dsimp only
  refine wpAny_bind (wpAny_holding (wpAny_pure ?_))
  refine wpAny_bind (wpAny_letGo ?_)
  show wpAny _ _ (if ((items.size : Nat) : Int) < 0 then _ else _) _ _ _
  rw [if_neg (by omega)]
  rw [if_neg (by omega)]
  exact wpAny_bind (wpAny_mkInt (wpAny_pure ⟨_, rfl, h⟩))
end
end Mine
end
section
open PySem PySem.W PySem.Calls PySem.Spec PyProof PyProof.Rows
set_option Elab.async false
namespace Mine
set_option linter.unusedVariables false
local macro_rules | `(tactic| walk_at "pyIter ref") => `(tactic| (refine stop_of ?_))
local macro_rules | `(tactic| walk_at "call ref") => `(tactic| (refine stop_of ?_))
local macro_rules | `(tactic| k_steps) => `(tactic| repeat' (first | (k_unfold; (try dsimp only)) | walk1 | (dsimp only; walk1) | (leave1; (try dsimp only)) | fail "no step"))
local macro_rules | `(tactic| walk_at "exec While Compare cons nil") => `(tactic| ((fail_if_success (rename Go => hgo)); refine stop_of ?_))
set_option hygiene false in
local macro_rules | `(tactic| walk_at "FRAME") => `(tactic| (intro y; (try dsimp only); (repeat (refine fr_step (fun hy => (by first | exact absurd hy (by assumption) | (subst hy; first | rfl | kernel_rfl))) fun hy => ?_)); (repeat (first | refine fr_last (by assumption) ?_ | refine fr_rstep (fun hy => (by subst hy; first | rfl | kernel_rfl)) fun hy => ?_)); (try rfl)))
set_option hygiene false in
local macro_rules | `(tactic| walk_at "PUR") => `(tactic| (k_dflt (refine' pur_intro (by omega) ?k6 ?k7 ?k9 ?kB ?_ ?c2 ?c3 ?c4 ?c5; (case k6 => k_is); (case k7 => k_is); (case k9 => (intro _ Xb; first | exact BindsTo.of_eq rfl | exact binds_K (by k_in) rfl (by k_is) rfl rfl rfl)); (case c5 => decide); (case kB => exact locs rfl); (case c2 => exact rfl); (case c3 => exact rfl); (case c4 => exact rfl)); k_whole; intro dp un gd env outer base mean mg mb s E L' h₁ tk hd hu hP F1 N2 B X T; (try dsimp only); (try k_fold)))
set_option hygiene false in
local macro_rules | `(tactic| walk_at "ROOM") => `(tactic| (first | omega | (simp only [Around.deeper, topE]; omega)))
set_option hygiene false in
local macro_rules | `(tactic| walk_at "SITE") => `(tactic| (refine ⟨rfl, by assumption, _, _, _, _, _, _, _, rfl, rfl, rfl, B, X, T⟩))
local macro_rules | `(tactic| walk_at "binaryOp Add ref ref") => `(tactic| (refine stop_of ?_))
set_option hygiene false in
local macro_rules | `(tactic| walk_at "SUB") => `(tactic| (intro p hp; (try simp only [List.mem_cons, List.mem_append, List.not_mem_nil, or_false, false_or] at hp ⊢); (repeat' (refine Or.elim hp (fun hp => ?_) fun hp => ?_)); (all_goals (simp only [hp, true_or, or_true]))))
local macro_rules | `(tactic| walk_at "binaryOp Add str str") => `(tactic| ((refine PyProof.Rows.add_str (hsz := ?hsz) ?_); (case hsz => (first | (simp only [Str.length_append, sizeLine_eq]; omega) | size_fits)); intro _ _))
local macro_rules | `(tactic| k_all) => `(tactic| (refine allLt_ne (by assumption) ?_; omega))
local macro_rules | `(tactic| k_all) => `(tactic| with_reducible assumption)
set_option hygiene false in
local macro_rules | `(tactic| walk_at "PURC") => `(tactic| (k_dflt (refine' pur_introC (by omega) ?k6 ?k7 ?k9 ?kB ?kD ?_ ?c2 ?c3 ?c4; (case k6 => k_is); (case k7 => k_is); (case k9 => (intro _ Xb; first | exact BindsTo.of_eq rfl | exact binds_K (by k_in) rfl (by k_is) rfl rfl rfl)); (case kB => exact rfl); (case kD => decide +kernel); (case c2 => exact rfl); (case c3 => exact rfl); (case c4 => exact rfl)); k_whole; intro dp un gd env outer base mean mg mb s E L' h₁ tk cells hd hu hP F1 N2 Y2 B X T; k_cells Y2; (try simp only [List.cons_append, List.nil_append] at N2); (try dsimp only); (try k_fold)))
local macro_rules | `(tactic| walk_at "compareOp Is str ref") => `(tactic| (refine wpAny_is_other (by rfl) (by intro x; cases x) ?_))
local macro_rules | `(tactic| walk_at "exec For Name Name cons nil") => `(tactic| (refine stop_of ?_))
set_option hygiene false in
local macro_rules | `(tactic| walk_at "OWN") => `(tactic| (k_dflt (refine' own_intro (by omega) ?k6 ?k7 ?k9 ?kB ?_ ?c2 ?c3 ?c4 ?c5; (case k6 => k_is); (case k7 => k_is); (case k9 => (intro _ Xb; first | exact BindsTo.of_eq rfl | exact binds_K (by k_in) rfl (by k_is) rfl rfl rfl)); (case c5 => decide); (case kB => exact locs rfl); (case c2 => exact rfl); (case c3 => exact rfl); (case c4 => exact rfl)); k_whole; intro dp un gd env outer base mean mg mb s E L' h₁ tk hd hu hP F1 N2 B X T; (try dsimp only); (try k_fold)))
set_option hygiene false in
local macro_rules | `(tactic| walk_at "CLS") => `(tactic| (k_dflt (refine' cls_intro (by omega) ?kh ?ki ?kj ?km ?k6 ?k7 ?k9 ?kB ?_ ?c2 ?c3 ?c4 ?c5; (case km => walk_at "MONO"); (case kh => k_is); (case ki => k_is); (case kj => k_is); (case k6 => k_is); (case k7 => k_is); (case k9 => (intro _ _ Xb; first | exact BindsTo.of_eq rfl | exact binds_K (by k_in) rfl (by k_is) rfl rfl rfl)); (case c5 => decide); (case kB => (intro _; exact locs rfl)); (case c2 => exact rfl); (case c3 => exact rfl); (case c4 => exact rfl)); k_whole; intro dp un gd env outer base mean mg mb s E L' h₁ tk xI dI hd hu lI F1 N2 B X T; (try dsimp only); (try k_fold)))
set_option hygiene false in
local macro_rules | `(tactic| walk_at "ENTER") => `(tactic| (refine' code_def ?k1 ?k2 ?k3 ?k4 ?k5 ?kA ?kF ?kK ?k6 ?k7 ?k8 ?k9 ?kB ?_ ?c2 ?c3 ?c4 ?c5; (case kA => exact rfl); (case kF => exact rfl); (case kK => exact rfl); (case k1 => k_asm); (case k2 => k_asm); (case k3 => k_asm); (case k4 => k_asm); (case k5 => k_asm); (case k6 => k_is); (case k7 => k_is); (case k8 => (simp only [depth_under_make, depth_under_kw, depth_in1, depth_deeper, depth_caller, topE]; omega)); (case k9 => first | exact BindsTo.of_eq rfl | exact binds_K (by k_in) rfl (by k_is) rfl rfl rfl | fail "k_enter: no rule for these arguments"); (case c5 => decide); (case kB => exact locs rfl); (case c2 => exact rfl); (case c3 => exact rfl); (case c4 => exact rfl); k_whole; intro g' L2' h' FG' F' N' B' X' T'; (try dsimp only); (try k_lift B'); (try k_fold)))
set_option hygiene false in
local macro_rules | `(tactic| walk_at "PURA") => `(tactic| (k_dflt (refine' purA_intro (by omega) ?k6 ?k7 ?k9 ?kB ?_ ?c2 ?c3 ?c4 ?c5; (case k6 => k_is); (case k7 => k_is); (case k9 => (intro _ Xb; first | exact BindsTo.of_eq rfl | exact binds_K (by k_in) rfl (by k_is) rfl rfl rfl)); (case c5 => decide); (case kB => exact locs rfl); (case c2 => exact rfl); (case c3 => exact rfl); (case c4 => exact rfl)); k_whole; intro dp un gd env outer base mean mg mb s E L' h₁ tk hd hu hP F1 N2 B X T; (try dsimp only); (try k_fold)))
local macro_rules | `(tactic| walk_at "getMethod type:tuple") => `(tactic| (k_here; refine' method_type ?F ?X ?m (by decide +kernel) ?e ?h ?_; (case F => k_asm); (case X => k_asm); (case m => (first | rfl | kernel_rfl)); (case e => k_dflt k_is); (case h => k_handed)))
local macro_rules | `(tactic| walk_at "call builtin:len") => `(tactic| (refine stop_of ?_))
set_option maxRecDepth 100000 in
set_option maxHeartbeats 4000000 in
theorem t_make (w : World) : PySem.Challenge.rw_ik0097_01 = PySem.Challenge.rw_ik0097_01 → Kx = Kx → ∀ (t : Addr) (a b c : Value),
    PurA w 160 [.ref 206, .ref t] 4 70 (fun h => IsTup h t #[a, b, c]) (NewR a b c) := by
  k_fill
  intro _ _ t a b c
  walk_at "PURA"
  have F2 := fr_as F1 (m' := fun (y : Str) => List.lookup y [("iterable", Value.ref t), ("cls", Value.ref 206)]) (by intro y; kernel_rfl)
  clear F1
  simp only [lk_cons, lk_nil] at F2
  have hY : tupIn (Kx w.params) 206 = true := by kernel_rfl
  have hi : findIn (Kx w.params) (.ref 206) "__init__" = some (some (.builtin "object.__init__")) := by k_dflt k_is
  k_steps
  (rename Fr s.heap L' _ _ => F9)
  (rename News s.heap L' _ _ => N9)
  have X9 := X.keeps F9.keep
  obtain ⟨o, ho, hc, n, hdat⟩ := hP
  refine tuple_new_sub (tup_of X9 hY) (looks_findIn X9 hi) (.inr rfl) (F9.keep _ _ ho) hc hdat (by show (3 : Nat) ≤ 100; decide) ?_
  intro h' dx r hst hlt n1 n2 g1 g2
  have stn : ∀ (q : Addr) (hh : Heap), (∀ b o, s.heap.get? b = some o → hh.get? b = some o) → hh.get? q = none → s.heap.get? q = none := fun q hh hk hq => by
    cases e : s.heap.get? q with
    | none => rfl
    | some o => have := hk _ _ e; rw [hq] at this; cases this
  have hnr := stn _ _ F9.keep n2
  have hnd := stn _ _ F9.keep n1
  have F10 := F9.keeps hst
  have N10 : News s.heap L' h' [(r, matchObj a b c dx), (dx, { cls := .type "dict", data := .dict #[] })] := by
    intro p hp
    have nL : ∀ q, (_ : Heap).get? q = none → q ≠ L' := fun q hq e => by
      obtain ⟨oL, _, _, hL, _⟩ := F9.ns
      rw [e, hL] at hq; cases hq
    rcases List.mem_cons.mp hp with rfl | hp
    · exact ⟨g2, nL _ n2, hnr⟩
    · rw [List.mem_singleton.mp hp]; exact ⟨g1, nL _ n1, hnd⟩
  clear F9 N9
  k_steps
  refine Stop.mk ?_
  (rename Fr s.heap L' _ _ => F11)
  (rename News s.heap L' _ _ => N11)
  have Y := mcls_of w rfl rfl s.heap X
  refine len_M (items := #[a, b, c]) ⟨Y.iter.keeps F11.keep, Y.lt.keeps F11.keep, Y.len.keeps F11.keep, Y.sub.keeps F11.keep⟩ ⟨_, (N11.get (.head _)), rfl, _, rfl⟩ (by show (3 : Nat) < 1000; decide) ?_
  k_steps
  · (rename _ ≠ (3 : Int) => q)
    exact absurd rfl q
  · (rename Fr s.heap L' _ _ => F12)
    (rename News s.heap L' _ _ => N12)
    exact PEnd.intro F12 ⟨r, dx, rfl, hlt, newIn_of N12 fun p hp => hp⟩
end Mine
end
section
open PySem PySem.W PySem.Calls PySem.Spec PyProof PyProof.Rows
set_option Elab.async false
set_option maxRecDepth 100000
namespace Mine
set_option linter.unusedVariables false
set_option linter.unusedSimpArgs false
theorem mp_mro : mroOf (.type "map") = pure [.type "map", .type "object"] := by rw [mroOf_type]; kernel_rfl
theorem mp_new : typeLookup (.type "map") "__new__" = pure (some (.builtin "map.__new__")) := by rw [typeLookup_type, builtinLookup_eq_fast]; kernel_rfl
theorem mp_init : Slot "map" "__init__" "object.__init__" :=
  .of (owner := "object") (n := "__init__") (by rw [typeLookup_type, builtinLookup_eq_fast]; kernel_rfl) (by decide +kernel) (by decide +kernel) (by decide +kernel)
    (by first | exact .inl (by decide +kernel) | exact .inr (by decide +kernel)) (by rw [isSubtype_type]; kernel_rfl)
theorem mp_next : Slot "map" "__next__" "map.__next__" :=
  .of (owner := "map") (n := "__next__") (by rw [typeLookup_type, builtinLookup_eq_fast]; kernel_rfl) (by decide +kernel) (by decide +kernel) (by decide +kernel)
    (by first | exact .inl (by decide +kernel) | exact .inr (by decide +kernel)) (by rw [isSubtype_type]; kernel_rfl)
theorem mp_iter : Slot "map" "__iter__" "map.__iter__" :=
  .of (owner := "map") (n := "__iter__") (by rw [typeLookup_type, builtinLookup_eq_fast]; kernel_rfl) (by decide +kernel) (by decide +kernel) (by decide +kernel)
    (by first | exact .inl (by decide +kernel) | exact .inr (by decide +kernel)) (by rw [isSubtype_type]; kernel_rfl)
theorem mp_called : TypeCalled "map" "map.__new__" "object.__init__" :=
  ⟨by decide +kernel, by decide +kernel, ⟨_, _, mp_mro⟩, madeBy_type mp_mro mp_new (by decide +kernel), by decide +kernel, by rw [isSubtype_type]; kernel_rfl, mp_init⟩
theorem mp_typeCall (a b : Value) : checkTypeCall "map" ⟨[a, b], []⟩ = pure () := by kernel_rfl
theorem mp_newCall (a b : Value) : checkBuiltinCall "map.__new__" ⟨[.type "map", a, b], []⟩ = pure () := by kernel_rfl
theorem mp_entry_new : entryFor table "map.__new__" = some Builtin.«map.__new__» := entryFor_of_tree (by kernel_rfl)
theorem mp_entry_next : entryFor table "map.__next__" = some Builtin.«map.__next__» := entryFor_of_tree (by kernel_rfl)
theorem mp_entry_iter : entryFor table "map.__iter__" = some Builtin.«dict_keyiterator.__iter__» :=
  entryFor_alias (id' := "dict_keyiterator.__iter__") (by kernel_rfl) (by first | rfl | decide +kernel | (unfold String.splitOn; simp +decide [String.splitOnAux])) (by decide +kernel) (by kernel_rfl)
theorem mp_owner : Manifest.owners.lookup (String.ofList ['p', 'a', 'm'].reverse) = some Manifest.sig_map := by kernel_rfl
theorem mp_args_next (a : Value) : argsOk "map.__next__" ⟨[a], []⟩ := by
  unfold argsOk; rw [signature?_of (id := "map.__next__") (n := ['_', '_', 't', 'x', 'e', 'n', '_', '_']) (o := ['p', 'a', 'm']) (by kernel_rfl) mp_owner]; kernel_rfl
theorem mp_args_iter (a : Value) : argsOk "map.__iter__" ⟨[a], []⟩ := by
  unfold argsOk; rw [signature?_of (id := "map.__iter__") (n := ['_', '_', 'r', 'e', 't', 'i', '_', '_']) (o := ['p', 'a', 'm']) (by kernel_rfl) mp_owner]; kernel_rfl
theorem mp_no_len : typeLookup (.type "map") "__len__" = pure none := by rw [typeLookup_type, builtinLookup_eq_fast]; kernel_rfl
theorem mp_no_hint : typeLookup (.type "map") "__length_hint__" = pure none := by rw [typeLookup_type, builtinLookup_eq_fast]; kernel_rfl
theorem mp_sub : isSubtype (.type "map") (.type "map") = pure true := by rw [isSubtype_type]; kernel_rfl
abbrev mapObj (IT : Addr) (f : Value) : Obj := { cls := .type "map", data := .fields #[.ref IT, f] }
abbrev liObj (l : Addr) (i : Nat) : Obj := { cls := .type "list_iterator", data := .fields #[.ref l, .int (i : Nat) 0] }
section
variable {prog : Program} {w : World} {A : Around} {E : Value → Shared → Prop} {s : Shared}
theorem mp_meets (f : Value) (l : Addr) : MeetsIn prog w (Builtin.«map.__new__» ⟨[.type "map", f, .ref l], []⟩) (fun _ R s => (∃ its, s.heap.IsList l its) ∧
    R (.ok (.ret (.ref (s.heap.objs.size + 1 + 1)))) { s with heap := ((s.heap.push (liObj l 0)).push { cls := .type "tuple", data := .seq #[.ref s.heap.objs.size] }).push (mapObj (s.heap.objs.size + 1) f) }) :=
  .of_wp fun A R s h => by
    obtain ⟨⟨its, hl⟩, h⟩ := h
    have hsub := mp_sub
    obtain ⟨hp, g, d, tk, os⟩ := s
    have hp1 : Heap.IsList (hp.push (liObj l 0)) l its := hl.push _
    wp_walk using wpAny_pyIter_list hl
    refine ⟨_, rfl, ?_⟩
    simp only [Heap.size_push]
    exact h
theorem map_K {h₀ : Heap} {L l : Addr} {m : Str → Option Value} {news : List (Addr × Obj)} {vs : List Value} {k : Nat} {f : Value} {Q : Value → Shared → Prop} (F : Fr h₀ L s.heap m) (N : News h₀ L s.heap news) (hm : (l, W.listOf vs.toArray k) ∈ news)
    (h : ∀ it IT I h', Fr h₀ L h' m → News h₀ L h' ((it, liObj l 0) :: (IT, { cls := .type "tuple", data := .seq #[.ref it] }) :: (I, mapObj IT f) :: news) → (∀ p ∈ news, p.1 < it) → it < IT → IT < I → Q (.ref I) { s with heap := h' }) :
    wpAny (model prog w) A (call (.type "map") [f, .ref l]) Q E s := by
  refine callType_newIn mp_called (by decide) (mp_typeCall _ _) (mp_newCall _ _) (fun obj => PySem.F.args_object_init_3 obj _ _) mp_entry_new (mp_meets f l) ⟨⟨vs.toArray, ⟨_, N.get hm, rfl, _, rfl⟩⟩, ⟨_, Heap.get?_push_at (by simp only [Heap.size_push]) rfl, rfl⟩, ?_⟩
  have F1 := F.push (liObj l 0)
  have N1 := N.push F (liObj l 0)
  have F2 := F1.push { cls := .type "tuple", data := .seq #[.ref s.heap.objs.size] }
  have N2 := N1.push F1 { cls := .type "tuple", data := .seq #[.ref s.heap.objs.size] }
  have F3 := F2.push (mapObj (s.heap.objs.size + 1) f)
  have N3 := N2.push F2 (mapObj (s.heap.objs.size + 1) f)
  simp only [Heap.size_push] at N3
  refine h _ (s.heap.objs.size + 1) (s.heap.objs.size + 1 + 1) _ F3 (news_sub N3 ?_) (fun p hp => Heap.lt_size (N p hp).1) (Nat.lt_succ_self _) (Nat.lt_succ_self _)
  intro p hp
  rcases List.mem_cons.mp hp with rfl | hp
  · exact .tail _ (.tail _ (.head _))
  rcases List.mem_cons.mp hp with rfl | hp
  · exact .tail _ (.head _)
  rcases List.mem_cons.mp hp with rfl | hp
  · exact .head _
  · exact .tail _ (.tail _ (.tail _ hp))
end
end Mine
end
section
open PySem PySem.W PySem.Calls PySem.Spec PyProof PyProof.Rows
set_option Elab.async false
set_option maxRecDepth 100000
namespace Mine
set_option linter.unusedVariables false
set_option linter.unusedSimpArgs false
theorem Site.in1 {w : World} {A : Around} {h₀ : Heap} {L : Addr} {h : Heap} {m : Str → Option Value} (S : Site w A h₀ L h m) : Site w A.in1 h₀ L h m := ⟨S.hh, S.fr, S.at'⟩
theorem Site.to {w : World} {A : Around} {h₀ : Heap} {L : Addr} {h h' : Heap} {m : Str → Option Value} (S : Site w A h₀ L h m) (F : Fr h₀ L h' m) : Site w A h₀ L h' m := ⟨S.hh, F, S.at'⟩
abbrev emptyD : Obj := { cls := .type "dict", data := .dict #[] }
/-- each object of a class of the ledger has its dict there -/
def DxIn (led : List (Addr × Obj)) : Prop := ∀ p ∈ led, ∀ dx, p.2.dict = some dx → (dx, emptyD) ∈ led
def IsLi (o : Obj) (l : Addr) (i : Nat) : Prop := o.cls = .type "list_iterator" ∧ o.data = .fields #[.ref l, .int (i : Nat) 0]
abbrev tupV (a b c : Value) : Obj := { cls := .type "tuple", data := .seq #[a, b, c] }
section
variable {w : World} {A : Around} {E : Value → Shared → Prop} {s : Shared} {h₀ : Heap} {L : Addr} {m : Str → Option Value} {rest : List (Addr × Obj)} {it IT I bm l t : Addr} {i k : Nat} {vs : List Value} {a b c : Value} {oi : Obj}
set_option maxHeartbeats 2000000 in
theorem mnext_item {Q : Option Value → Shared → Prop} (hmake : ∀ (t : Addr) (a b c : Value), PurA w 160 [.ref 206, .ref t] 4 70 (fun h => IsTup h t #[a, b, c]) (NewR a b c)) (S : Site w A h₀ L s.heap m) (hd : A.depth + 4 < recursionLimit) (hu : A.units + 100 < cLine)
    (F : Fr h₀ L s.heap m) (N : News h₀ L s.heap ((it, oi) :: rest)) (hoi : IsLi oi l i) (hI : (I, mapObj IT (.ref bm)) ∈ rest) (hIT : (IT, ({ cls := .type "tuple", data := .seq #[.ref it] } : Obj)) ∈ rest) (hb : (bm, methodObj (.ref 160) (.ref 206)) ∈ rest)
    (hl : (l, W.listOf vs.toArray k) ∈ rest) (hv : vs[i]? = some (.ref t)) (ht : (t, tupV a b c) ∈ rest) (hne : ∀ p ∈ rest, p.1 ≠ it)
    (h : ∀ r dx oi' h' tk, Fr h₀ L h' m → News h₀ L h' ((it, oi') :: (r, matchObj a b c dx) :: (dx, emptyD) :: rest) → IsLi oi' l (i + 1) → (∀ p ∈ (it, oi) :: rest, p.1 ≠ r ∧ p.1 ≠ dx) → Q (some (.ref r)) { s with heap := h', toks := tk }) :
    wpAny (model pw w) A (pyNext (.ref I)) Q E s := by
  have oI := N.get (.tail _ hI)
  have oIT := N.get (.tail _ hIT)
  have ol := N.get (.tail _ hl)
  have oit := N.get (.head _)
  unfold pyNext
  refine wpAny_bind (wpAny_attempt (wpAny_callSpecial?_slot (name := Str.ofString "__next__") ⟨_, oI, rfl⟩ mp_next (wpAny_call_entry mp_next ⟨_, oI, rfl⟩ mp_entry_next ?_ (mp_args_next _))))
  show wpAny _ _ (field (.ref I) 0 >>= _) _ _ s
  refine wpAny_bind (wpAny_field oI rfl (x := .ref IT) rfl ?_)
  refine wpAny_bind (wpAny_seqItems oIT rfl ?_)
  simp only [List.forIn_toArray, List.forIn_cons, List.forIn_nil]
  refine wpAny_bind (wpAny_bind (wpAny_bind (wpAny_holding (wpAny_nextOf_list_item (i := i) (l := l) ⟨_, oit, hoi.1, hoi.2⟩ ⟨_, ol, rfl, _, rfl⟩ (by simpa using hv) fun h1 hit1 hs1 => ?_))))
  refine wpAny_pure ?_
  obtain ⟨oi', oit1, hc1, hd1⟩ := hit1
  have nit := N _ (.head _)
  have F1 := kas_fr F hs1 nit.2.1 nit.2.2
  have N1 : News h₀ L h1 ((it, oi') :: rest) := by
    intro p hp
    rcases List.mem_cons.mp hp with rfl | hp
    · exact ⟨oit1, nit.2⟩
    · have := N p (.tail _ hp)
      exact ⟨(hs1.2 _ (hne p hp)).trans this.1, this.2⟩
  dsimp only
  refine wpAny_pure ?_
  refine wpAny_bind (wpAny_field (N1.get (.tail _ hI)) rfl (x := .ref bm) rfl ?_)
  refine wpAny_bind (wpAny_holding (wpAny_call (method_call (f := .ref 160) (self := .ref 206) (N1.get (.tail _ hb)) ?_)))
  refine hmake t a b c A.in1 h₀ L m _ _ (S.in1.to F1) hd (by show A.units + 1 + 70 < cLine; omega) ⟨_, N1.get (.tail _ ht), rfl, _, rfl⟩ ?_
  rintro _ h2 tk2 hs2 ⟨r, dx, rfl, hlt, hn2⟩
  have F2 := F1.keeps hs2
  have N2 := news_stay N1 hs2
  have hr := hn2 _ (.head _)
  have hx := hn2 _ (.tail _ (.head _))
  have N3 := news_add F1 (news_add F1 N2 hx.1 hx.2) hr.1 hr.2
  have hner : ∀ p ∈ (it, oi') :: rest, p.1 ≠ r ∧ p.1 ≠ dx := fun p hp => ⟨news_off N1 hr.1 p hp, news_off N1 hx.1 p hp⟩
  refine wpAny_bind (wpAny_letGo (wpAny_pure ⟨_, rfl, wpAny_pure ?_⟩))
  refine h r dx oi' h2 tk2 F2 (news_sub N3 ?_) ⟨hc1, hd1⟩ ?_
  · intro p hp
    rcases List.mem_cons.mp hp with rfl | hp
    · exact .tail _ (.tail _ (.head _))
    rcases List.mem_cons.mp hp with rfl | hp
    · exact .head _
    rcases List.mem_cons.mp hp with rfl | hp
    · exact .tail _ (.head _)
    · exact .tail _ (.tail _ (.tail _ hp))
  · intro p hp
    rcases List.mem_cons.mp hp with rfl | hp
    · exact hner (it, oi') (.head _)
    · exact hner p (.tail _ hp)
set_option maxHeartbeats 2000000 in
theorem mnext_end {Q : Option Value → Shared → Prop} (hh : A.handled = none) (N : News h₀ L s.heap ((it, oi) :: rest)) (hoi : IsLi oi l i) (hI : (I, mapObj IT (.ref bm)) ∈ rest) (hIT : (IT, ({ cls := .type "tuple", data := .seq #[.ref it] } : Obj)) ∈ rest)
    (hl : (l, W.listOf vs.toArray k) ∈ rest) (hv : vs[i]? = none) (h : ∀ h', Heap.ExtBut it s.heap h' → Q none { s with heap := h' }) :
    wpAny (model pw w) A (pyNext (.ref I)) Q E s := by
  have oI := N.get (.tail _ hI)
  have oIT := N.get (.tail _ hIT)
  have ol := N.get (.tail _ hl)
  have oit := N.get (.head _)
  unfold pyNext
  refine wpAny_bind (wpAny_attempt (wpAny_callSpecial?_slot (name := Str.ofString "__next__") ⟨_, oI, rfl⟩ mp_next (wpAny_call_entry mp_next ⟨_, oI, rfl⟩ mp_entry_next ?_ (mp_args_next _))))
  show wpAny _ _ (field (.ref I) 0 >>= _) _ _ s
  refine wpAny_bind (wpAny_field oI rfl (x := .ref IT) rfl ?_)
  refine wpAny_bind (wpAny_seqItems oIT rfl ?_)
  simp only [List.forIn_toArray, List.forIn_cons, List.forIn_nil]
  refine wpAny_bind (wpAny_bind (wpAny_bind (wpAny_holding (wpAny_nextOf_list_end (i := i) (l := l) (by exact hh) ⟨_, oit, hoi.1, hoi.2⟩ ⟨_, ol, rfl, _, rfl⟩ (by simpa using hv) fun h1 e hs1 he => ?_))))
  refine wpAny_bind (wpAny_isInstance (T := "StopIteration") (b := true) he isSubtype_stop ?_)
  exact wpAny_pure (h _ hs1)
theorem TupsIn.get {led : List (Addr × Obj)} : ∀ {vs : List Value} {bl : List (Nat × Nat × Nat)} (_ : TupsIn led vs bl) {i : Nat}, i < bl.length → ∃ b a x y z, bl[i]? = some b ∧ vs[i]? = some (.ref a) ∧ (a, tup3 b x y z) ∈ led
  | [], [], _, i, h => absurd h (Nat.not_lt_zero _)
  | _ :: _, b :: _, ⟨⟨a, x, y, z, e1, e2⟩, _⟩, 0, _ => by subst e1; exact ⟨b, a, x, y, z, rfl, rfl, e2⟩
  | _ :: _, _ :: _, ⟨_, T⟩, i + 1, h => by
    simp only [List.getElem?_cons_succ]
    exact TupsIn.get T (by simpa using h)
  | [], _ :: _, T, _, _ => T.elim
  | _ :: _, [], T, _, _ => T.elim
set_option maxHeartbeats 2000000 in
theorem mloop {SL : Addr} {bl : List (Nat × Nat × Nat)} (hmake : ∀ (t : Addr) (a b c : Value), PurA w 160 [.ref 206, .ref t] 4 70 (fun h => IsTup h t #[a, b, c]) (NewR a b c)) (hd : A.depth + 4 < recursionLimit) (hu : A.units + 102 < cLine)
    (hI : (I, mapObj IT (.ref bm)) ∈ rest) (hIT : (IT, ({ cls := .type "tuple", data := .seq #[.ref it] } : Obj)) ∈ rest) (hb : (bm, methodObj (.ref 160) (.ref 206)) ∈ rest) (hl : (l, W.listOf vs.toArray k) ∈ rest) (hT : TupsIn rest vs bl) (hsz : bl.length ≤ 100) :
    ∀ (n i : Nat) (s : Shared) (acc : List Value) (c0 : Nat) (oi : Obj) (made : List (Addr × Obj)) (R : Result → Shared → Prop), i + n = bl.length → Site w A h₀ L s.heap m → Fr h₀ L s.heap m → News h₀ L s.heap ((SL, W.listOf acc.toArray c0) :: (it, oi) :: (made ++ rest)) → IsLi oi l i →
      (∀ p ∈ (it, oi) :: (made ++ rest), p.1 ≠ SL) → (∀ p ∈ made ++ rest, p.1 ≠ it) → MatsIn made acc (bl.take i) → ((∀ p ∈ made, p.2.cls = .ref 206 ∨ p.2 = emptyD) ∧ DxIn made) →
      (∀ h' tk made' acc' c', Fr h₀ L h' m → News h₀ L h' ((SL, W.listOf acc'.toArray c') :: (made' ++ rest)) → (∀ p ∈ made' ++ rest, p.1 ≠ SL) → MatsIn made' acc' bl → ((∀ p ∈ made', p.2.cls = .ref 206 ∨ p.2 = emptyD) ∧ DxIn made') → R (.ok (.ret .none)) { s with heap := h', toks := tk }) →
      codeAny (model pw w) A (.builtin "list.extend.loop" ⟨[.ref SL, .ref I, .none], []⟩) R s := by
  intro n
  induction n with
  | zero =>
    intro i s acc c0 oi made R hn hS F N hoi hne1 hne2 hM hcl hR
    obtain rfl : i = bl.length := by omega
    refine codeAny_builtin PySem.F.entry_extend_loop ?_
    rw [Around.under_plainId PySem.F.plain_extend_loop _]
    show wpAny _ A.in1 (pyNext (.ref I) >>= _) _ _ s
    have N2 : News h₀ L s.heap ((it, oi) :: (made ++ rest)) := fun p hp => N p (.tail _ hp)
    refine wpAny_bind (mnext_end (rest := made ++ rest) hS.hh N2 hoi (List.mem_append_right _ hI) (List.mem_append_right _ hIT) (List.mem_append_right _ hl) (List.getElem?_eq_none (by rw [hT.length]; exact Nat.le_refl _)) fun h' he => ?_)
    rw [List.take_length] at hM
    have nit := N2 _ (.head _)
    have F' : Fr h₀ L h' m := by
      obtain ⟨oL, es, ep, hL, hLd, hLk, hLf⟩ := F.ns
      exact ⟨⟨oL, es, ep, he _ _ nit.2.1.symm hL, hLd, hLk, hLf⟩, fun b o e => he b o (fun q => by rw [q, nit.2.2] at e; cases e) (F.keep b o e), F.above⟩
    refine wpAny_pure (hR h' s.toks made acc c0 F' ?_ (fun p hp => hne1 p (.tail _ hp)) hM hcl)
    intro p hp
    rcases List.mem_cons.mp hp with rfl | hp
    · have := N _ (.head _)
      exact ⟨he _ _ (hne1 _ (.head _)).symm this.1, this.2⟩
    · have := N2 p (.tail _ hp)
      exact ⟨he _ _ (hne2 p hp) this.1, this.2⟩
  | succ n ih =>
    intro i s acc c0 oi made R hn hS F N hoi hne1 hne2 hM hcl hR
    obtain ⟨b, t, x, y, z, hbi, hvi, hti⟩ := hT.get (i := i) (by omega)
    refine codeAny_builtin PySem.F.entry_extend_loop ?_
    rw [Around.under_plainId PySem.F.plain_extend_loop _]
    show wpAny _ A.in1 (pyNext (.ref I) >>= _) _ _ s
    have N2 : News h₀ L s.heap ((it, oi) :: (made ++ (SL, W.listOf acc.toArray c0) :: rest)) := by
      intro p hp
      rcases List.mem_cons.mp hp with rfl | hp
      · exact N _ (.tail _ (.head _))
      rcases List.mem_append.mp hp with hp | hp
      · exact N p (.tail _ (.tail _ (List.mem_append_left _ hp)))
      rcases List.mem_cons.mp hp with rfl | hp
      · exact N _ (.head _)
      · exact N p (.tail _ (.tail _ (List.mem_append_right _ hp)))
    refine wpAny_bind (mnext_item (rest := made ++ (SL, W.listOf acc.toArray c0) :: rest) hmake hS.in1 hd (by show A.units + 1 + 100 < cLine; omega) F N2 hoi (List.mem_append_right _ (.tail _ hI)) (List.mem_append_right _ (.tail _ hIT)) (List.mem_append_right _ (.tail _ hb)) (List.mem_append_right _ (.tail _ hl)) hvi (List.mem_append_right _ (.tail _ hti)) ?_ ?_)
    · intro p hp
      rcases List.mem_append.mp hp with hp | hp
      · exact hne2 p (List.mem_append_left _ hp)
      rcases List.mem_cons.mp hp with rfl | hp
      · exact (hne1 _ (.head _)).symm
      · exact hne2 p (List.mem_append_right _ hp)
    · intro r dx oi' h1 tk1 F1 N1 hoi1 hner
      have nS := N1 _ (.tail _ (.tail _ (.tail _ (List.mem_append_right _ (.head _)))))
      have hrS : r ≠ SL := fun e => (hner _ (.tail _ (List.mem_append_right _ (.head _)))).1 e.symm
      have hrit : r ≠ it := fun e => (hner _ (.head _)).1 e.symm
      have hxS : dx ≠ SL := fun e => (hner _ (.tail _ (List.mem_append_right _ (.head _)))).2 e.symm
      have hxit : dx ≠ it := fun e => (hner _ (.head _)).2 e.symm
      show wpAny _ A.in1 (updateSeq SL (·.push (.ref r)) >>= _) _ _ _
      refine wpAny_bind ?_
      have hs : Heap.SameBut SL h1 (h1.update SL (Obj.mapSeq fun x => x.push (.ref r))) := Heap.SameBut.update ..
      have ho' : (h1.update SL (Obj.mapSeq fun x => x.push (.ref r))).get? SL = some (W.listOf (acc ++ [Value.ref r]).toArray (c0 + 1)) := by
        have e := Heap.get?_update_self (Obj.mapSeq fun x => x.push (.ref r)) nS.1 rfl
        have e2 : Obj.mapSeq (fun x => x.push (.ref r)) (W.listOf acc.toArray c0) = W.listOf (acc ++ [Value.ref r]).toArray (c0 + 1) := by simp [Obj.mapSeq]
        rw [← e2]; exact e
      have hlen : acc.length ≤ 100 := by rw [hM.length, List.length_take]; omega
      refine wpAny_updateSeq nS.1 rfl (wpAny_pure ⟨plainId_quiet PySem.F.plain_extend_loop _, ih (i + 1) _ (acc ++ [Value.ref r]) (c0 + 1) oi' ((r, matchObj (.int (b.1 : Nat) x) (.int (b.2.1 : Nat) y) (.int (b.2.2 : Nat) z) dx) :: (dx, emptyD) :: made) R (by omega) (hS.to (kas_fr F1 hs nS.2.1 nS.2.2)) (kas_fr F1 hs nS.2.1 nS.2.2) ?_ hoi1 ?_ ?_ ?_ ?_ ?_⟩) ?_ ?_
      · intro p hp
        rcases List.mem_cons.mp hp with rfl | hp
        · exact ⟨ho', nS.2⟩
        rcases List.mem_cons.mp hp with rfl | hp
        · have := N1 _ (.head _)
          exact ⟨(hs.2 _ (hne1 (it, oi) (.head _))).trans this.1, this.2⟩
        rcases List.mem_append.mp hp with hp | hp
        · rcases List.mem_cons.mp hp with rfl | hp
          · have := N1 _ (.tail _ (.head _))
            exact ⟨(hs.2 _ hrS).trans this.1, this.2⟩
          rcases List.mem_cons.mp hp with rfl | hp
          · have := N1 _ (.tail _ (.tail _ (.head _)))
            exact ⟨(hs.2 _ hxS).trans this.1, this.2⟩
          · have := N1 p (.tail _ (.tail _ (.tail _ (List.mem_append_left _ hp))))
            exact ⟨(hs.2 _ (hne1 p (.tail _ (List.mem_append_left _ hp)))).trans this.1, this.2⟩
        · have := N1 p (.tail _ (.tail _ (.tail _ (List.mem_append_right _ (.tail _ hp)))))
          exact ⟨(hs.2 _ (hne1 p (.tail _ (List.mem_append_right _ hp)))).trans this.1, this.2⟩
      · intro p hp
        rcases List.mem_cons.mp hp with rfl | hp
        · exact hne1 (it, oi) (.head _)
        rcases List.mem_append.mp hp with hp | hp
        · rcases List.mem_cons.mp hp with rfl | hp
          · exact hrS
          rcases List.mem_cons.mp hp with rfl | hp
          · exact hxS
          · exact hne1 p (.tail _ (List.mem_append_left _ hp))
        · exact hne1 p (.tail _ (List.mem_append_right _ hp))
      · intro p hp
        rcases List.mem_append.mp hp with hp | hp
        · rcases List.mem_cons.mp hp with rfl | hp
          · exact hrit
          rcases List.mem_cons.mp hp with rfl | hp
          · exact hxit
          · exact hne2 p (List.mem_append_left _ hp)
        · exact hne2 p (List.mem_append_right _ hp)
      · rw [List.take_add_one, hbi]
        exact (hM.more fun p hp => .tail _ (.tail _ hp)).append ⟨⟨r, x, y, z, dx, rfl, .head _⟩, trivial⟩
      · refine ⟨fun p hp => ?_, fun p hp dx' hd => ?_⟩
        · rcases List.mem_cons.mp hp with rfl | hp
          · exact .inl rfl
          rcases List.mem_cons.mp hp with rfl | hp
          · exact .inr rfl
          · exact hcl.1 p hp
        · rcases List.mem_cons.mp hp with rfl | hp
          · cases hd; exact .tail _ (.head _)
          rcases List.mem_cons.mp hp with rfl | hp
          · cases hd
          · exact .tail _ (.tail _ (hcl.2 p hp dx' hd))
      · intro h' tk made' acc' c' F' N' hne' hM' hcl'
        exact hR h' tk made' acc' c' F' N' hne' hM' hcl'
      · rw [sizeLine_eq]; simp; omega
      · rw [sizeLine_eq]; simp; omega
set_option maxHeartbeats 2000000 in
/-- list(map(Match._make, tuples)) -/
theorem list_map_K {bl : List (Nat × Nat × Nat)} {Q : Value → Shared → Prop} (hmake : ∀ (t : Addr) (a b c : Value), PurA w 160 [.ref 206, .ref t] 4 70 (fun h => IsTup h t #[a, b, c]) (NewR a b c)) (hd : A.depth + 4 < recursionLimit) (hu : A.units + 110 < cLine)
    (S : Site w A h₀ L s.heap m) (F : Fr h₀ L s.heap m) (N : News h₀ L s.heap ((it, liObj l 0) :: rest)) (hI : (I, mapObj IT (.ref bm)) ∈ rest) (hIT : (IT, ({ cls := .type "tuple", data := .seq #[.ref it] } : Obj)) ∈ rest) (hb : (bm, methodObj (.ref 160) (.ref 206)) ∈ rest) (hl : (l, W.listOf vs.toArray k) ∈ rest)
    (hne : ∀ p ∈ rest, p.1 ≠ it) (hT : TupsIn rest vs bl) (hsz : bl.length ≤ 100)
    (hQ : ∀ r h' tk made acc c, Fr h₀ L h' m → News h₀ L h' ((r, W.listOf acc.toArray c) :: (made ++ rest)) → (∀ p ∈ made ++ rest, p.1 ≠ r) → MatsIn made acc bl → ((∀ p ∈ made, p.2.cls = .ref 206 ∨ p.2 = emptyD) ∧ DxIn made) → Q (.ref r) { s with heap := h', toks := tk }) :
    wpAny (model pw w) A (call (.type "list") [.ref I]) Q E s := by
  refine callType_codes (Q₁ := fun obj s₁ => obj = .ref s.heap.objs.size ∧ s₁ = { s with heap := s.heap.push { cls := .type "list", data := .seq #[] } }) PySem.F.called_list (PySem.F.typeCall_list_1 _) PySem.F.entry_list_init
    (code_list_new _ ⟨rfl, rfl⟩) fun obj s₁ h₁ => ?_
  obtain ⟨rfl, rfl⟩ := h₁
  have hS : (s.heap.push { cls := .type "list", data := .seq #[] }).get? s.heap.objs.size = some { cls := .type "list", data := .seq #[] } := Heap.get?_push_size _ rfl
  refine ⟨⟨_, hS, rfl⟩, PySem.F.args_list_init_2 _ _, ?_⟩
  have F1 := F.push (W.listOf #[] 0)
  have N1 := N.push F (W.listOf #[] 0)
  have hlt : ∀ p ∈ (it, liObj l 0) :: rest, p.1 ≠ s.heap.objs.size := fun p hp => Nat.ne_of_lt (Heap.lt_size (N p hp).1)
  obtain ⟨hp, g, d, tk, os⟩ := s
  dsimp only at F1 N1 hlt hS hQ S ⊢
  clear N F
  generalize hp.push { cls := .type "list", data := .seq #[] } = h1 at F1 N1 hS
  generalize hp.objs.size = SL at N1 hlt hS ⊢
  have upd : ∀ (h : Heap) (c : Nat) (f : Array Value → Array Value), Fr h₀ L h m → News h₀ L h ((SL, W.listOf #[] c) :: (it, liObj l 0) :: rest) → f #[] = #[] → ∃ c', Fr h₀ L (h.update SL (Obj.mapSeq f)) m ∧ News h₀ L (h.update SL (Obj.mapSeq f)) ((SL, W.listOf #[] c') :: (it, liObj l 0) :: rest) := by
    intro h c f F N hf
    have hs : Heap.SameBut SL h (h.update SL (Obj.mapSeq f)) := Heap.SameBut.update ..
    have nS := N _ (.head _)
    obtain ⟨c', hc'⟩ : ∃ c', (h.update SL (Obj.mapSeq f)).get? SL = some (seqObj "list" (f #[]) c') := ⟨_, get?_update_seq nS.1 f⟩
    rw [hf] at hc'
    refine ⟨c', kas_fr F hs nS.2.1 nS.2.2, ?_⟩
    intro p hp
    rcases List.mem_cons.mp hp with rfl | hp
    · exact ⟨hc', nS.2⟩
    · have := N p (.tail _ hp)
      exact ⟨(hs.2 _ (hlt p hp)).trans this.1, this.2⟩
  show wpAny _ A.in1.in1 (do let old ← Builtin.List.listItems (.ref SL); Builtin.List.listUpdate (.ref SL) (fun _ => #[]); letGo old.toList.reverse; Builtin.List.listExtendWith (.ref SL) (.ref I) .none) _ _ _
  refine wpAny_bind ?_
  unfold Builtin.List.listItems
  refine wpAny_bind (wpAny_seqItems hS rfl (wpAny_pure ?_))
  show wpAny _ A.in1.in1 (updateSeq SL (fun _ => #[]) >>= fun _ => letGo (#[] : Array Value).toList.reverse >>= fun _ => Builtin.List.listExtendWith (.ref SL) (.ref I) .none) _ _ _
  refine wpAny_bind (wpAny_updateSeq hS rfl ?_)
  obtain ⟨c2, F2, N2⟩ := upd h1 0 (fun _ => #[]) F1 N1 rfl
  generalize h1.update SL (Obj.mapSeq fun _ => #[]) = h2 at F2 N2 ⊢
  refine wpAny_bind (wpAny_letGo ?_)
  have oI := N2.get (.tail _ (.tail _ hI))
  unfold Builtin.List.listExtendWith
  refine wpAny_bind (wpAny_typeOf (T := "map") ⟨_, oI, rfl⟩ ?_)
  have hSI : SL ≠ I := fun e => hlt _ (.tail _ hI) e.symm
  have q1 : Builtin.List.listSameRef (.ref SL) (.ref I) = false := by simp [Builtin.List.listSameRef, hSI]
  have q2 : (Value.type "map" == Value.type "list") = false := by decide
  have q3 : (Value.type "map" == Value.type "tuple") = false := by decide
  simp only [q1, q2, q3, Bool.or_false, Bool.false_eq_true, if_false]
  refine wpAny_bind (wpAny_pyIter_slot (T := "map") ⟨_, oI, rfl⟩ mp_iter (wpAny_call_entry mp_iter ⟨_, oI, rfl⟩ mp_entry_iter ?_ (mp_args_iter _)))
  show wpAny _ _ (ret (.ref I)) _ _ _
  refine wpAny_pure ⟨_, rfl, "map", _, ⟨_, oI, rfl⟩, mp_next.lookup, ?_⟩
  refine wpAny_bind (wpAny_holding ?_)
  unfold Builtin.List.listLengthHint
  refine wpAny_bind (wpAny_specialOf (T := "map") ⟨_, oI, rfl⟩ mp_no_len ?_)
  show wpAny _ _ (specialOf (Value.ref I) (Str.ofString "__length_hint__") >>= _) _ _ _
  refine wpAny_bind (wpAny_specialOf (T := "map") ⟨_, oI, rfl⟩ mp_no_hint ?_)
  refine wpAny_pure ?_
  show wpAny _ _ (rule "list.extend.makes-room" >>= fun _ => Builtin.List.listTouch (.ref SL) >>= fun _ =>
    again (.builtin "list.extend.loop" ⟨[.ref SL, .ref I, .none], []⟩)) _ _ _
  refine wpAny_bind (wpAny_rule ?_)
  refine wpAny_bind ?_
  show wpAny _ _ (updateSeq SL (·.push .none) >>= fun _ => updateSeq SL (·.pop)) _ _ _
  have nS2 := N2 _ (.head _)
  have hs3 : Heap.SameBut SL h2 ((h2.update SL (Obj.mapSeq (·.push Value.none))).update SL (Obj.mapSeq (·.pop))) := (Heap.SameBut.update ..).trans (Heap.SameBut.update ..)
  refine wpAny_bind (wpAny_updateSeq nS2.1 rfl ?_)
  have hS2 := Heap.get?_update_self (Obj.mapSeq (·.push Value.none)) nS2.1 rfl
  refine wpAny_updateSeq (hz := by seq_fits) hS2 rfl ?_
  have hS3 := Heap.get?_update_self (Obj.mapSeq (·.pop)) hS2 rfl
  have F3 := kas_fr F2 hs3 nS2.2.1 nS2.2.2
  obtain ⟨c3, hc3⟩ : ∃ c3, ((h2.update SL (Obj.mapSeq (·.push Value.none))).update SL (Obj.mapSeq (·.pop))).get? SL = some (W.listOf ([] : List Value).toArray c3) := by
    obtain ⟨e1, g1⟩ : ∃ e1, (h2.update SL (Obj.mapSeq (·.push Value.none))).get? SL = some (seqObj "list" ((#[] : Array Value).push Value.none) e1) := ⟨_, get?_update_seq nS2.1 (·.push Value.none)⟩
    obtain ⟨e2, g2⟩ : ∃ e2, ((h2.update SL (Obj.mapSeq (·.push Value.none))).update SL (Obj.mapSeq (·.pop))).get? SL = some (seqObj "list" (((#[] : Array Value).push Value.none).pop) e2) := ⟨_, get?_update_seq g1 (·.pop)⟩
    exact ⟨e2, g2⟩
  have N3 : News h₀ L ((h2.update SL (Obj.mapSeq (·.push Value.none))).update SL (Obj.mapSeq (·.pop))) ((SL, W.listOf ([] : List Value).toArray c3) :: (it, liObj l 0) :: ([] ++ rest)) := by
    intro p hp
    rcases List.mem_cons.mp hp with rfl | hp
    · exact ⟨hc3, nS2.2⟩
    · have := N2 p (.tail _ hp)
      exact ⟨(hs3.2 _ (hlt p hp)).trans this.1, this.2⟩
  generalize ((h2.update SL (Obj.mapSeq (·.push Value.none))).update SL (Obj.mapSeq (·.pop))) = h3 at F3 N3 ⊢
  refine wpAny_pure ⟨plainId_quiet PySem.F.plain_extend_loop _, ?_⟩
  refine mloop (A := A.in1) (rest := rest) hmake hd (by show A.units + 1 + 102 < cLine; omega) hI hIT hb hl hT hsz bl.length 0 _ [] c3 (liObj l 0) [] _ (Nat.zero_add _) (S.in1.to F3) F3 N3 ⟨rfl, rfl⟩ hlt hne trivial ⟨(fun _ h => nomatch h), (fun _ h => nomatch h)⟩ ?_
  intro h' tk' made acc c' F' N' hne' hM' hcl'
  exact ⟨rfl, hQ SL h' tk' made acc c' F' N' hne' hM' hcl'⟩
end
end Mine
end
section
open PySem PySem.W PySem.Calls PySem.Spec PyProof PyProof.Rows
set_option Elab.async false
namespace Mine
set_option linter.unusedVariables false
local macro_rules | `(tactic| walk_at "pyIter ref") => `(tactic| (refine stop_of ?_))
local macro_rules | `(tactic| walk_at "call ref") => `(tactic| (refine stop_of ?_))
local macro_rules | `(tactic| k_steps) => `(tactic| repeat' (first | (k_unfold; (try dsimp only)) | walk1 | (dsimp only; walk1) | (leave1; (try dsimp only)) | fail "no step"))
local macro_rules | `(tactic| walk_at "exec While Compare cons nil") => `(tactic| ((fail_if_success (rename Go => hgo)); refine stop_of ?_))
set_option hygiene false in
local macro_rules | `(tactic| walk_at "FRAME") => `(tactic| (intro y; (try dsimp only); (repeat (refine fr_step (fun hy => (by first | exact absurd hy (by assumption) | (subst hy; first | rfl | kernel_rfl))) fun hy => ?_)); (repeat (first | refine fr_last (by assumption) ?_ | refine fr_rstep (fun hy => (by subst hy; first | rfl | kernel_rfl)) fun hy => ?_)); (try rfl)))
set_option hygiene false in
local macro_rules | `(tactic| walk_at "PUR") => `(tactic| (k_dflt (refine' pur_intro (by omega) ?k6 ?k7 ?k9 ?kB ?_ ?c2 ?c3 ?c4 ?c5; (case k6 => k_is); (case k7 => k_is); (case k9 => (intro _ Xb; first | exact BindsTo.of_eq rfl | exact binds_K (by k_in) rfl (by k_is) rfl rfl rfl)); (case c5 => decide); (case kB => exact locs rfl); (case c2 => exact rfl); (case c3 => exact rfl); (case c4 => exact rfl)); k_whole; intro dp un gd env outer base mean mg mb s E L' h₁ tk hd hu hP F1 N2 B X T; (try dsimp only); (try k_fold)))
set_option hygiene false in
local macro_rules | `(tactic| walk_at "ROOM") => `(tactic| (first | omega | (simp only [Around.deeper, topE]; omega)))
set_option hygiene false in
local macro_rules | `(tactic| walk_at "SITE") => `(tactic| (refine ⟨rfl, by assumption, _, _, _, _, _, _, _, rfl, rfl, rfl, B, X, T⟩))
local macro_rules | `(tactic| walk_at "binaryOp Add ref ref") => `(tactic| (refine stop_of ?_))
set_option hygiene false in
local macro_rules | `(tactic| walk_at "SUB") => `(tactic| (intro p hp; (try simp only [List.mem_cons, List.mem_append, List.not_mem_nil, or_false, false_or] at hp ⊢); (repeat' (refine Or.elim hp (fun hp => ?_) fun hp => ?_)); (all_goals (simp only [hp, true_or, or_true]))))
local macro_rules | `(tactic| walk_at "binaryOp Add str str") => `(tactic| ((refine PyProof.Rows.add_str (hsz := ?hsz) ?_); (case hsz => (first | (simp only [Str.length_append, sizeLine_eq]; omega) | size_fits)); intro _ _))
local macro_rules | `(tactic| k_all) => `(tactic| (refine allLt_ne (by assumption) ?_; omega))
local macro_rules | `(tactic| k_all) => `(tactic| with_reducible assumption)
set_option hygiene false in
local macro_rules | `(tactic| walk_at "PURC") => `(tactic| (k_dflt (refine' pur_introC (by omega) ?k6 ?k7 ?k9 ?kB ?kD ?_ ?c2 ?c3 ?c4; (case k6 => k_is); (case k7 => k_is); (case k9 => (intro _ Xb; first | exact BindsTo.of_eq rfl | exact binds_K (by k_in) rfl (by k_is) rfl rfl rfl)); (case kB => exact rfl); (case kD => decide +kernel); (case c2 => exact rfl); (case c3 => exact rfl); (case c4 => exact rfl)); k_whole; intro dp un gd env outer base mean mg mb s E L' h₁ tk cells hd hu hP F1 N2 Y2 B X T; k_cells Y2; (try simp only [List.cons_append, List.nil_append] at N2); (try dsimp only); (try k_fold)))
local macro_rules | `(tactic| walk_at "compareOp Is str ref") => `(tactic| (refine wpAny_is_other (by rfl) (by intro x; cases x) ?_))
local macro_rules | `(tactic| walk_at "exec For Name Name cons nil") => `(tactic| (refine stop_of ?_))
set_option hygiene false in
local macro_rules | `(tactic| walk_at "OWN") => `(tactic| (k_dflt (refine' own_intro (by omega) ?k6 ?k7 ?k9 ?kB ?_ ?c2 ?c3 ?c4 ?c5; (case k6 => k_is); (case k7 => k_is); (case k9 => (intro _ Xb; first | exact BindsTo.of_eq rfl | exact binds_K (by k_in) rfl (by k_is) rfl rfl rfl)); (case c5 => decide); (case kB => exact locs rfl); (case c2 => exact rfl); (case c3 => exact rfl); (case c4 => exact rfl)); k_whole; intro dp un gd env outer base mean mg mb s E L' h₁ tk hd hu hP F1 N2 B X T; (try dsimp only); (try k_fold)))
set_option hygiene false in
local macro_rules | `(tactic| walk_at "CLS") => `(tactic| (k_dflt (refine' cls_intro (by omega) ?kh ?ki ?kj ?km ?k6 ?k7 ?k9 ?kB ?_ ?c2 ?c3 ?c4 ?c5; (case km => walk_at "MONO"); (case kh => k_is); (case ki => k_is); (case kj => k_is); (case k6 => k_is); (case k7 => k_is); (case k9 => (intro _ _ Xb; first | exact BindsTo.of_eq rfl | exact binds_K (by k_in) rfl (by k_is) rfl rfl rfl)); (case c5 => decide); (case kB => (intro _; exact locs rfl)); (case c2 => exact rfl); (case c3 => exact rfl); (case c4 => exact rfl)); k_whole; intro dp un gd env outer base mean mg mb s E L' h₁ tk xI dI hd hu lI F1 N2 B X T; (try dsimp only); (try k_fold)))
set_option hygiene false in
local macro_rules | `(tactic| walk_at "ENTER") => `(tactic| (refine' code_def ?k1 ?k2 ?k3 ?k4 ?k5 ?kA ?kF ?kK ?k6 ?k7 ?k8 ?k9 ?kB ?_ ?c2 ?c3 ?c4 ?c5; (case kA => exact rfl); (case kF => exact rfl); (case kK => exact rfl); (case k1 => k_asm); (case k2 => k_asm); (case k3 => k_asm); (case k4 => k_asm); (case k5 => k_asm); (case k6 => k_is); (case k7 => k_is); (case k8 => (simp only [depth_under_make, depth_under_kw, depth_in1, depth_deeper, depth_caller, topE]; omega)); (case k9 => first | exact BindsTo.of_eq rfl | exact binds_K (by k_in) rfl (by k_is) rfl rfl rfl | fail "k_enter: no rule for these arguments"); (case c5 => decide); (case kB => exact locs rfl); (case c2 => exact rfl); (case c3 => exact rfl); (case c4 => exact rfl); k_whole; intro g' L2' h' FG' F' N' B' X' T'; (try dsimp only); (try k_lift B'); (try k_fold)))
set_option hygiene false in
local macro_rules | `(tactic| walk_at "getAttr ref") => `(tactic| (k_here; (with_reducible show wpAny _ _ (getAttr (Value.ref _) (PySem.Str.ofString "__contains__") true) _ _ _); k_dflt (refine' bound_set_K (knd := PySem.strKind _ _) ?F ?N ?m ?S ?_; (case F => k_asm); (case N => k_asm); (case m => k_mem); (case S => k_asm)); intro qS' h' tk' F' N' lB'; (try k_lt lB')))
set_option hygiene false in
local macro_rules | `(tactic| walk_at "getAttr ref") => `(tactic| (k_here; (with_reducible show wpAny _ _ (getAttr (Value.ref _) (PySem.Str.ofString "get") true) _ _ _); k_dflt (refine' bound_dict_K (knd := intKind _ _) ?F ?N ?m ?S ?_; (case F => k_asm); (case N => k_asm); (case m => k_mem); (case S => k_asm)); intro qG' h' tk' F' N' lB'; (try k_lt lB')))
set_option hygiene false in
local macro_rules | `(tactic| walk_at "getAttr ref") => `(tactic| (k_here; (with_reducible show wpAny _ _ (getAttr (Value.ref _) (PySem.Str.ofString "append") true) _ _ _); k_dflt (refine' bound_list_K ?F ?N ?m ?_; (case F => k_asm); (case N => k_asm); (case m => k_mem)); intro qA' h' tk' F' N' lB'; (try k_lt lB')))
local macro_rules | `(tactic| walk_at "callWith ref") => `(tactic| (k_here; k_dflt (refine' callWith_bound ?bN ?bM ?_; (case bN => k_asm); (case bM => k_mem); k_whole)))
local macro_rules | `(tactic| walk_at "And") => `(tactic| ((with_reducible show BoundAt _ _ _ _ ∧ _); k_dflt (refine ⟨BoundAt.of (by k_asm) (by k_mem), ?_⟩); (try dsimp only [List.nil_append, List.cons_append])))
local macro_rules | `(tactic| walk_at "exec While Name cons nil") => `(tactic| (refine stop_of ?_))
local macro_rules | `(tactic| walk_at "call builtin:list.pop") => `(tactic| (refine stop_of ?_))
local macro_rules | `(tactic| walk_at "call builtin:list.sort") => `(tactic| (refine stop_of ?_))
local macro_rules | `(tactic| walk_at "exec For Tuple Name cons nil") => `(tactic| (refine stop_of ?_))
local macro_rules | `(tactic| walk_at "truthy ref") => `(tactic| (refine stop_of ?_))
local macro_rules | `(tactic| walk_at "assign Tuple") => `(tactic| ((with_reducible show wpAny _ _ (assign (Expr.Tuple _ _ _) _ (Value.ref _)) _ _ _); refine assignM_K (by assumption) (by assumption) (by assumption) (by assumption) (by rfl) (by rfl) (by rfl) ?_; intro _ _ _ _))
local macro_rules | `(tactic| walk_at "exec If") => `(tactic| ((fail_if_success (rename Go => hgo)); refine stop_of ?_))
local macro_rules | `(tactic| walk_at "call type:map") => `(tactic| (refine stop_of ?_))
local macro_rules | `(tactic| walk_at "call type:list") => `(tactic| (refine stop_of ?_))
theorem news_ne2 {h₀ h : Heap} {L : Addr} {n1 n2 : List (Addr × Obj)} (N1 : News h₀ L h n1) (N2 : News h₀ L h n2) {a b : Addr} {o o' : Obj} (h1 : (a, o) ∈ n1) (h2 : (b, o') ∈ n2) (hc : o ≠ o') : a ≠ b := fun e => by
  have e1 := N1.get h1
  have e2 := N2.get h2
  rw [e, e2] at e1
  cases e1
  exact hc rfl
def MlR (h : Heap) (bl : List (Nat × Nat × Nat)) (v : Value) (h' : Heap) : Prop := ∃ r vs tl k, v = .ref r ∧ NewIn h h' ((r, W.listOf vs.toArray k) :: tl) ∧ MatsIn tl vs bl ∧ DxIn tl
set_option maxRecDepth 100000 in
set_option maxHeartbeats 4000000 in
theorem t_gmb (w : World) : PySem.Challenge.rw_ik0097_01 = PySem.Challenge.rw_ik0097_01 → Kx = Kx → ∀ (f g : Str) (x d b2 jk pp : Addr) (oE oJ : Obj) (TB : List Row) (t u t1 t2 t3 t4 t5 t6 t7 t8 t9 t10 : Tok), SmIs w f g x d b2 jk oE oJ TB → f.length = 8 → g.length = 8 →
    OwnK w 274 [.ref x] [(x, instObj 313 d), (d, dictOf (attrs1 w.params f g b2 jk pp .none t u t1 t2 t3 t4 t5 t6 t7 t8 t9 t10) 10), (b2, oE), (jk, oJ)] 12 500 (fun h => ListsAt h TB)
      (fun h v h' => MlR h (blocksM 9 f.cps.toList g.cps.toList 0 0 ++ [(8, 8, 0)]) v h') := by
  k_fill
  intro _ _ f g xI dI b2 jk pp oE oJ TB t u t1 t2 t3 t4 t5 t6 t7 t8 t9 t10 hS hlf hlg
  walk_at "OWN"
  simp only [attrs1, attr] at N2
  have F2 := fr_as F1 (m' := fun (y : Str) => List.lookup y [("self", Value.ref xI)]) (by intro y; kernel_rfl)
  clear F1
  simp only [lk_cons, lk_nil] at F2
  have hdx := ltN hS.fdx
  have hxb := ltN hS.fxb
  have hbj := ltN hS.fbj
  have hgo := Go.mk
  k_steps
  clear hgo
  (rename Fr _ _ _ _ => F3)
  (rename News _ _ _ _ => N3)
  refine Stop.mk ?_
  rename_i _ P2 _ la _ _ _ _ P1 _ lb qA _ lc _ _ mb _ ld _
  simp only [hlf, hlg] at F3 N3
  obtain ⟨la1, la2, la3, la4⟩ := la
  obtain ⟨lb1, lb2, lb3, lb4, lb5⟩ := lb
  obtain ⟨lc1, lc2, lc3, lc4, lc5, lc6⟩ := lc
  obtain ⟨ld1, ld2, ld3, ld4, ld5, ld6, ld7⟩ := ld
  have N4 := news_sub N3 (led := (qA, W.listOf [Value.ref P1].toArray 0) :: (mb, W.listOf ([] : List Value).toArray 0) :: (xI, instObj 313 dI) :: (dI, dictOf (attrs1 w.params f g b2 jk pp .none t u t1 t2 t3 t4 t5 t6 t7 t8 t9 t10) 10) :: (b2, oE) :: (jk, oJ) :: [(P1, _)]) (by
    intro p hp
    rcases List.mem_cons.mp hp with rfl | hp
    · exact .tail _ (.head _)
    rcases List.mem_cons.mp hp with rfl | hp
    · exact .head _
    rcases List.mem_cons.mp hp with rfl | hp
    · exact .tail _ (.tail _ (.tail _ (.tail _ (.head _))))
    rcases List.mem_cons.mp hp with rfl | hp
    · exact .tail _ (.tail _ (.tail _ (.tail _ (.tail _ (.head _)))))
    rcases List.mem_cons.mp hp with rfl | hp
    · exact .tail _ (.tail _ (.tail _ (.tail _ (.tail _ (.tail _ (.head _))))))
    rcases List.mem_cons.mp hp with rfl | hp
    · exact .tail _ (.tail _ (.tail _ (.tail _ (.tail _ (.tail _ (.tail _ (.head _)))))))
    rw [List.mem_singleton.mp hp]
    exact .tail _ (.tail _ (.head _)))
  clear N3
  obtain ⟨ta, tb, F4⟩ : ∃ ta tb, Fr s.heap L' _ (frM xI qA mb ta tb none none none none none none none none) := ⟨_, _, fr_as F3 (by walk_at "FRAME")⟩
  clear F3
  refine While_done (n₀ := 17) (JW f.cps.toList g.cps.toList xI dI b2 jk qA mb (dictOf (attrs1 w.params f g b2 jk pp .none t u t1 t2 t3 t4 t5 t6 t7 t8 t9 t10) 10) oE oJ ta tb) (JD f.cps.toList g.cps.toList xI dI b2 jk qA mb (dictOf (attrs1 w.params f g b2 jk pp .none t u t1 t2 t3 t4 t5 t6 t7 t8 t9 t10) 10) oE oJ ta tb) F4 N4 ?hj ?turn ?done
  case hj =>
    refine ⟨[(0, 8, 0, 8)], [], [Value.ref P1], [], 0, 0, _, none, none, none, none, none, none, none, none, rfl, rfl, ?_, ?_, ?_, ?_, ?_, ?_, ⟨⟨P1, _, _, _, _, rfl, .head _⟩, trivial⟩, trivial, ?_, rfl, Nat.le_refl _, ?_⟩
    · intro p hp; rw [List.mem_singleton.mp hp]; exact Nat.ne_of_lt lc1
    · intro p hp; rw [List.mem_singleton.mp hp]; exact Nat.ne_of_lt ld2
    · intro p hp; rw [List.mem_singleton.mp hp]; exact Nat.ne_of_gt lb2
    · intro p hp; rw [List.mem_singleton.mp hp]; exact Nat.ne_of_gt lb3
    · intro p hp; rw [List.mem_singleton.mp hp]; exact Nat.ne_of_gt lb4
    · intro p hp; rw [List.mem_singleton.mp hp]; exact Nat.ne_of_gt lb5
    · intro r hr; rw [List.mem_singleton.mp hr]; unfold okReg; dsimp only; omega
    · rw [qblk_one]; exact .refl _
  case turn =>
    clear F4 N4
    rintro n m1 nw1 hp1 tk1 F4 N4 ⟨queue, found, qv, fv, kq, kf, tl, w1, w2, w3, w4, w5, w6, w7, w8, rfl, rfl, o1, o2, o3, o4, o5, o6, hR, hM, hok, hsum, hn17, hperm⟩
    have hql : qv.length ≤ 17 := by rw [hR.length]; have := qsum_len queue; omega
    have hfl : fv.length ≤ 5 := by
      have e1 := hperm.length_eq
      have e2 := blk_count (f := f.cps.toList) (g := g.cps.toList) (by simpa [Str.length] using hlf) (by simpa [Str.length] using hlg)
      rw [List.length_append] at e1
      rw [hM.length]; omega
    k_steps
    refine Stop.mk ?_
    refine wpAny_truthy_list (items := qv.toArray) ⟨_, N4.get (.head _), rfl, _, rfl⟩ (by rw [List.size_toArray]; omega) ?_
    rcases List.eq_nil_or_concat queue with rfl | ⟨qs, r, rfl⟩
    · obtain rfl : qv = [] := by cases qv with | nil => rfl | cons _ _ => exact hR.elim
      rw [if_neg (by decide)]
      exact Stop.mk (WDone.intro F4 N4 ⟨found, fv, kq, kf, tl, _, _, _, _, _, _, _, _, rfl, rfl, o1, o2, o3, o4, o5, o6, hM, by simpa [qblk] using hperm⟩)
    · rw [List.concat_eq_append] at *
      obtain ⟨qv', a, z1, z2, z3, z4, rfl, hR', hma⟩ := hR.last
      obtain ⟨alo, ahi, blo, bhi⟩ := r
      dsimp only at hma
      have hrk := hok (alo, ahi, blo, bhi) (List.mem_append_right _ (.head _))
      unfold okReg at hrk
      dsimp only at hrk
      obtain ⟨r1, r2, r3, r4⟩ := hrk
      rw [if_pos (by simp)]
      refine stop_wp ?_
      k_steps
      refine Stop.mk ?_
      refine kl_pop (p := qv') (y := .ref a) F4 N4 (kl_last_app qv' (.ref a)) (by k_upd) (by rw [sizeLine_eq]; simp at hql ⊢; omega) ?_
      intro h5 F5 N5
      clear F4 N4
      have hI : IsTup h5 a #[.int (alo : Nat) z1, .int (ahi : Nat) z2, .int (blo : Nat) z3, .int (bhi : Nat) z4] := ⟨_, N5.get (.tail _ (.tail _ (.tail _ (.tail _ (.tail _ (.tail _ hma)))))), rfl, _, rfl⟩
      k_steps
      refine Stop.mk ?_
      (rename Fr s.heap L' _ _ => F6)
      (rename News s.heap L' _ _ => N6)
      have F6' := fr_as F6 (m' := frM xI qA mb ta tb (some (.int (alo : Nat) z1)) (some (.int (ahi : Nat) z2)) (some (.int (blo : Nat) z3)) (some (.int (bhi : Nat) z4)) w5 w6 w7 w8) (by walk_at "FRAME")
      have N6o := news_sub N6 (led := [(xI, instObj 313 dI), (dI, dictOf (attrs1 w.params f g b2 jk pp .none t u t1 t2 t3 t4 t5 t6 t7 t8 t9 t10) 10), (b2, oE), (jk, oJ)]) (by walk_at "SUB")
      have N6r := news_sub N6 (led := (qA, W.listOf qv'.toArray (kq + 1)) :: (mb, W.listOf fv.toArray kf) :: tl) (by walk_at "SUB")
      have hLA : ListsAt (less _ [(xI, instObj 313 dI), (dI, dictOf (attrs1 w.params f g b2 jk pp .none t u t1 t2 t3 t4 t5 t6 t7 t8 t9 t10) 10), (b2, oE), (jk, oJ)]) TB := fun r hr => (hP r hr).at fun o e => less_base F6 N6o e
      refine own_use (t_flm w rfl rfl f g xI dI b2 jk pp oE oJ TB t u t1 t2 t3 t4 t5 t6 t7 t8 t9 t10 z1 z2 z3 z4 alo ahi blo bhi hS hlf hlg r1 r2 r3 r4) ⟨rfl, F6, _, _, _, _, _, _, _, rfl, rfl, rfl, B, X, T⟩ N6o (by walk_at "ROOM") (by walk_at "ROOM") hLA ?_
      rintro _ h7 tk7 hs7 F7 ⟨rm, dm, bi, bj, bs, v1, v2, v3, rfl, hn7, hB⟩
      have N7o := less_newIn F6 N6o hn7
      have hnotown : ∀ p ∈ (qA, W.listOf qv'.toArray (kq + 1)) :: (mb, W.listOf fv.toArray kf) :: tl, p.1 ∉ [(xI, instObj 313 dI), (dI, dictOf (attrs1 w.params f g b2 jk pp .none t u t1 t2 t3 t4 t5 t6 t7 t8 t9 t10) 10), (b2, oE), (jk, oJ)].map (·.1) := (by
        intro p hp hq
        simp only [List.map_cons, List.map_nil, List.mem_cons, List.not_mem_nil, or_false] at hq
        rcases List.mem_cons.mp hp with rfl | hp
        · rcases hq with h | h | h | h
          · exact Nat.ne_of_gt lc3 h
          · exact Nat.ne_of_gt lc4 h
          · exact Nat.ne_of_gt lc5 h
          · exact Nat.ne_of_gt lc6 h
        rcases List.mem_cons.mp hp with rfl | hp
        · rcases hq with h | h | h | h
          · exact Nat.ne_of_gt ld4 h
          · exact Nat.ne_of_gt ld5 h
          · exact Nat.ne_of_gt ld6 h
          · exact Nat.ne_of_gt ld7 h
        have a3 := o3 p hp; have a4 := o4 p hp; have a5 := o5 p hp; have a6 := o6 p hp
        rcases hq with h | h | h | h
        · exact a3 h
        · exact a4 h
        · exact a5 h
        · exact a6 h)
      have N7r := less_news N6r hs7 hnotown
      have hfr := (hn7 _ (.head _)).1
      dsimp only at hfr
      have hrest : ∀ p ∈ (qA, W.listOf qv'.toArray (kq + 1)) :: (mb, W.listOf fv.toArray kf) :: tl, p.1 ≠ rm := by
        intro p hp e
        have := hideAll_get _ (N6r p hp).1 (hnotown p hp)
        rw [e, hfr] at this
        cases this
      have hcx : rm ≠ xI := news_ne N7o N7o (.head _) (.tail _ (.head _)) (by intro e; cases e)
      have hcd : rm ≠ dI := news_ne N7o N7o (.head _) (.tail _ (.tail _ (.head _))) (by intro e; cases e)
      have hcb : rm ≠ b2 := news_ne N7o N7o (.head _) (.tail _ (.tail _ (.tail _ (.head _)))) (by obtain ⟨_, _, hx, _⟩ := id hS.fDict; rw [hx.1]; intro e; cases e)
      have hcj : rm ≠ jk := news_ne N7o N7o (.head _) (.tail _ (.tail _ (.tail _ (.tail _ (.head _))))) (by obtain ⟨hx, _⟩ := id hS.fJunk; rw [hx.1]; intro e; cases e)
      have hrq : rm ≠ qA := fun e => hrest _ (.head _) e.symm
      have hrb : rm ≠ mb := fun e => hrest _ (.tail _ (.head _)) e.symm
      have hrt : ∀ p ∈ tl, p.1 ≠ rm := fun p hp => hrest p (.tail _ (.tail _ hp))
      have N8 : News s.heap L' h7 ((qA, W.listOf qv'.toArray (kq + 1)) :: (mb, W.listOf fv.toArray kf) :: (xI, instObj 313 dI) :: (dI, dictOf (attrs1 w.params f g b2 jk pp .none t u t1 t2 t3 t4 t5 t6 t7 t8 t9 t10) 10) :: (b2, oE) :: (jk, oJ) :: (rm, matchObj (.int (bi : Nat) v1) (.int (bj : Nat) v2) (.int (bs : Nat) v3) dm) :: tl) := by
        intro p hp
        rcases List.mem_cons.mp hp with rfl | hp
        · exact N7r _ (.head _)
        rcases List.mem_cons.mp hp with rfl | hp
        · exact N7r _ (.tail _ (.head _))
        rcases List.mem_cons.mp hp with rfl | hp
        · exact N7o _ (.tail _ (.head _))
        rcases List.mem_cons.mp hp with rfl | hp
        · exact N7o _ (.tail _ (.tail _ (.head _)))
        rcases List.mem_cons.mp hp with rfl | hp
        · exact N7o _ (.tail _ (.tail _ (.tail _ (.head _))))
        rcases List.mem_cons.mp hp with rfl | hp
        · exact N7o _ (.tail _ (.tail _ (.tail _ (.tail _ (.head _)))))
        rcases List.mem_cons.mp hp with rfl | hp
        · exact N7o _ (.head _)
        · exact N7r p (.tail _ (.tail _ hp))
      have Y := mcls_of w rfl rfl s.heap X
      have hIM : IsM h7 rm #[.int (bi : Nat) v1, .int (bj : Nat) v2, .int (bs : Nat) v3] := ⟨_, (N8.get (.tail _ (.tail _ (.tail _ (.tail _ (.tail _ (.tail _ (.head _)))))))), rfl, _, rfl⟩
      have C : GC f.cps.toList g.cps.toList xI dI b2 jk qA mb rm qs found qv' fv tl alo ahi blo bhi bi bj bs n := ⟨by simpa [Str.length] using hlf, by simpa [Str.length] using hlg, o1, o2, o3, o4, o5, o6, hrq, hrb, hcx, hcd, hcb, hcj, hR', hM, hok, hsum, hn17, hperm, hB⟩
      clear N7o N7r N6o N6r hfr hn7 hs7 F6 N6 hLA hI
      have hgo := Go.mk
      k_steps
      all_goals (rename Fr s.heap L' _ _ => F9)
      all_goals (rename News s.heap L' _ _ => N9)
      all_goals refine Stop.mk ?_
      all_goals have F10 := fr_as F9 (m' := frM xI qA mb ta tb (some (.int (alo : Nat) z1)) (some (.int (ahi : Nat) z2)) (some (.int (blo : Nat) z3)) (some (.int (bhi : Nat) z4)) (some (.int (bi : Nat) v1)) (some (.int (bj : Nat) v2)) (some (.int (bs : Nat) v3)) (some (.ref rm))) (by walk_at "FRAME")
      all_goals first
        | exact gmb_LR C (by assumption) (by assumption) (by assumption) F10 N9
        | exact gmb_L C (by assumption) (by assumption) (.inl (by assumption)) F10 N9
        | exact gmb_L C (by assumption) (by assumption) (.inr (by assumption)) F10 N9
        | exact gmb_R C (by assumption) (by assumption) (.inl (by assumption)) F10 N9
        | exact gmb_R C (by assumption) (by assumption) (.inr (by assumption)) F10 N9
        | exact gmb_N C (by assumption) (.inl (by assumption)) (.inl (by assumption)) F10 N9
        | exact gmb_N C (by assumption) (.inr (by assumption)) (.inl (by assumption)) F10 N9
        | exact gmb_N C (by assumption) (.inl (by assumption)) (.inr (by assumption)) F10 N9
        | exact gmb_N C (by assumption) (.inr (by assumption)) (.inr (by assumption)) F10 N9
        | exact gmb_Z C (by assumption) F10 N9
        | skip
  case done =>
    clear F4 N4
    rintro m1 nw1 hp1 tk1 ⟨found, fv, kq, kf, tl, w1, w2, w3, w4, w5, w6, w7, w8, rfl, rfl, o1, o2, o3, o4, o5, o6, hM, hperm⟩ F4 N4
    have Y := mcls_of w rfl rfl s.heap X
    have hlf' : f.cps.toList.length = 8 := by simpa [Str.length] using hlf
    have hlg' : g.cps.toList.length = 8 := by simpa [Str.length] using hlg
    obtain ⟨hb1, hb2⟩ := blk_ok (f := f.cps.toList) (g := g.cps.toList) 8 0 8 0 8 (by omega) (by omega) (by omega) (by omega) (by omega)
    have hb3 := ahead_lt hb2 fun b hb => (hb1 b hb).2
    have hb5 := blk_count hlf' hlg'
    have hfl : found.length ≤ 5 := by rw [hperm.length_eq]; exact hb5
    have hnd : (found.map (·.1)).Nodup := by
      refine (hperm.map (·.1)).nodup_iff.mpr ?_
      unfold List.Nodup
      rw [List.pairwise_map]
      exact hb3.imp fun h => Nat.ne_of_lt h
    k_steps
    refine Stop.mk ?_
    (rename News s.heap L' _ _ => N5)
    (rename Fr s.heap L' _ _ => F5)
    refine sort_all (by simp only [Around.in1, Around.deeper, topE]; omega) F5 N5 Y (.tail (Nat.ne_of_lt ld1) (.head ?hU)) (fun o => hM.more fun p hp => .tail _ (.tail _ (.tail _ (.tail _ (.tail _ (.tail _ hp)))))) hfl hnd ?_
    case hU =>
      intro p hp
      rcases List.mem_cons.mp hp with rfl | hp
      · exact Nat.ne_of_lt ld4
      rcases List.mem_cons.mp hp with rfl | hp
      · exact Nat.ne_of_lt ld5
      rcases List.mem_cons.mp hp with rfl | hp
      · exact Nat.ne_of_lt ld6
      rcases List.mem_cons.mp hp with rfl | hp
      · exact Nat.ne_of_lt ld7
      · exact o2 p hp
    intro h6 c6 fv6 bl6 hp6 hpw6 hM6 F6 N6 tk6
    obtain rfl : bl6 = blk f.cps.toList g.cps.toList 0 8 0 8 := sorted_eq (hp6.trans hperm) hpw6 hb3
    clear F5 N5 hM hperm hfl hnd hp6 hpw6
    (try dsimp only at N6)
    k_steps
    (rename News s.heap L' _ _ => N7)
    (rename Fr s.heap L' _ _ => F7)
    refine Stop.mk ?_
    rename_i na _ ln _
    obtain ⟨ln1, ln2, ln3, ln4, ln5, ln6, ln7⟩ := ln
    generalize hR0 : ((qA, W.listOf #[] kq) :: (xI, instObj 313 dI) :: (dI, dictOf (attrs1 w.params f g b2 jk pp .none t u t1 t2 t3 t4 t5 t6 t7 t8 t9 t10) 10) :: (b2, oE) :: (jk, oJ) :: tl : List (Addr × Obj)) = R0
    have hMR : MatsIn R0 fv6 (blk f.cps.toList g.cps.toList 0 8 0 8) := (hM6 (W.listOf #[] 0)).drop (by
      intro p hp
      rw [← hR0]
      rcases List.mem_cons.mp hp with rfl | hp
      · exact .inl (.head _)
      rcases List.mem_cons.mp hp with rfl | hp
      · exact .inr (by intro e; cases e)
      · exact .inl (.tail _ hp))
    have hmR : ∀ p ∈ R0, p.1 ≠ mb ∧ p.1 ≠ na := by
      intro p hp
      rw [← hR0] at hp
      rcases List.mem_cons.mp hp with rfl | hp
      · exact ⟨Nat.ne_of_lt ld1, Nat.ne_of_lt ln1⟩
      rcases List.mem_cons.mp hp with rfl | hp
      · exact ⟨Nat.ne_of_lt ld4, Nat.ne_of_lt ln3⟩
      rcases List.mem_cons.mp hp with rfl | hp
      · exact ⟨Nat.ne_of_lt ld5, Nat.ne_of_lt ln4⟩
      rcases List.mem_cons.mp hp with rfl | hp
      · exact ⟨Nat.ne_of_lt ld6, Nat.ne_of_lt ln5⟩
      rcases List.mem_cons.mp hp with rfl | hp
      · exact ⟨Nat.ne_of_lt ld7, Nat.ne_of_lt ln6⟩
      · exact ⟨o2 p hp, allLt_ne ln7 (Nat.le_refl _) p hp⟩
    have N8 := news_sub N7 (led := (mb, W.listOf fv6.toArray c6) :: (na, W.listOf ([] : List Value).toArray 0) :: ([] ++ R0)) (by
      intro p hp
      rcases List.mem_cons.mp hp with rfl | hp
      · exact .tail _ (.tail _ (.head _))
      rcases List.mem_cons.mp hp with rfl | hp
      · exact .head _
      · rw [List.nil_append, ← hR0] at hp
        rcases List.mem_cons.mp hp with rfl | hp
        · exact .tail _ (.head _)
        · exact .tail _ (.tail _ (.tail _ hp)))
    clear N7 hM6
    refine For_invT s.heap ?_ (by intro _; rfl)
    k_steps
    refine Stop.mk ?_
    refine iter_ownT (JM (blk f.cps.toList g.cps.toList 0 8 0 8) xI qA mb na R0 ta tb w1 w2 w3 w4 w5 w6 w7 w8) rfl F7 N8 rfl ⟨_, rfl⟩ ?hnl ?hj ?turn ?done
    case hnl =>
      intro p hp
      rcases List.mem_cons.mp hp with rfl | hp
      · exact Nat.ne_of_gt ln2
      · exact (hmR p hp).1
    case hj => exact ⟨(0, 0, 0), [], 0, [], _, _, _, none, none, none, funext (by walk_at "FRAME"), rfl, trivial, .inl ⟨rfl, rfl⟩, fun _ h => nomatch h⟩
    case turn =>
      clear F7 N8
      rintro i v m₁ news₁ ⟨h, gg, dd, tk, oo⟩ own hv hoff ⟨c, nv, kn, tn, x1, x2, x3, u1, u2, u3, rfl, rfl, hT, hcur, htn⟩ F8 N8
      dsimp only at F8 N8
      have hib : i < (blk f.cps.toList g.cps.toList 0 8 0 8).length := by
        rw [← hMR.length]
        rcases Nat.lt_or_ge i fv6.length with h | h
        · exact h
        · rw [List.getElem?_eq_none h] at hv; cases hv
      obtain ⟨b, a, y1, y2, y3, dx, hb, hva, hma⟩ := hMR.get hib
      rw [hva] at hv
      obtain rfl := Option.some.inj hv
      have hcase := cur_cases hb2 (fun b hb => (hb1 b hb).2) hcur hb
      obtain ⟨c1, c2, c3⟩ := c
      obtain ⟨b1', b2', b3'⟩ := b
      have hbm := (hb1 _ (List.mem_of_getElem? hb))
      dsimp only at hbm hcase hma F8
      have q0 := hbm.1.a1; have q1 := hbm.1.b1; have q2 := hbm.2
      have hIM : IsM h a #[.int (b1' : Nat) y1, .int (b2' : Nat) y2, .int (b3' : Nat) y3] := ⟨_, N8.get (List.mem_append_left _ (.tail _ (List.mem_append_right _ hma))), rfl, _, rfl⟩
      rw [List.cons_append] at N8
      generalize hTT : tn ++ R0 ++ own = TT at N8
      have hTn : ∀ p ∈ TT, p.1 ≠ na := by
        intro p hp
        rw [← hTT] at hp
        rcases List.mem_append.mp hp with hp | hp
        · rcases List.mem_append.mp hp with hp | hp
          · exact htn p hp
          · exact (hmR p hp).2
        · exact hoff p hp na (.head _)
      have hnl : nv.length ≤ 5 := by
        rw [hT.length, List.length_take]; omega
      have hgo := Go.mk
      k_steps
      all_goals (rename Fr s.heap _ _ _ => F9)
      all_goals (rename News s.heap _ _ _ => N9)
      all_goals have F10 := fr_as F9 (m' := frNV xI qA mb na ta tb _ _ _ (some (.int (b1' : Nat) y1)) (some (.int (b2' : Nat) y2)) (some (.int (b3' : Nat) y3)) w1 w2 w3 w4 w5 w6 w7 w8) (by walk_at "FRAME")
      all_goals first
        | exact mrg_A hb hcase (by assumption) (by assumption) hT htn hoff hTT F10 N9
        | exact mrg_B hb hcase (by assumption) (by assumption) hT htn hoff hTT F10 (news_tail N9)
        | exact mrg_C hb hcase (by assumption) hT htn hoff hTT F10 (news_tail N9)
        | skip
    case done =>
      clear F7 N8
      rintro m1 nw1 h9 tk9 ⟨c, nv, kn, tn, x1, x2, x3, u1, u2, u3, rfl, rfl, hT, hcur, htn⟩ F9 N9
      obtain ⟨c1, c2, c3⟩ := c
      (try dsimp only at F9)
      have hTn : ∀ p ∈ tn ++ R0, p.1 ≠ na := by
        intro p hp
        rcases List.mem_append.mp hp with hp | hp
        · exact htn p hp
        · exact (hmR p hp).2
      have hnl : nv.length ≤ 5 := by
        rw [hT.length, List.length_take]; omega
      have hlen := hMR.length
      have hcp : c3 ≠ 0 → 0 < fv6.length ∧ (blk f.cps.toList g.cps.toList 0 8 0 8).take (fv6.length - 1) ++ [(c1, c2, c3)] = blk f.cps.toList g.cps.toList 0 8 0 8 := by
        intro hc
        rcases hcur with ⟨_, e⟩ | ⟨h, e⟩
        · simp only [Prod.mk.injEq] at e; omega
        · refine ⟨h, ?_⟩
          have e1 : (blk f.cps.toList g.cps.toList 0 8 0 8).take (fv6.length - 1 + 1) = (blk f.cps.toList g.cps.toList 0 8 0 8).take (fv6.length - 1) ++ [(c1, c2, c3)] := by rw [List.take_add_one, e]; rfl
          rw [← e1, List.take_of_length_le (by omega)]
      have hcz : c3 = 0 → (blk f.cps.toList g.cps.toList 0 8 0 8).take (fv6.length - 1) = blk f.cps.toList g.cps.toList 0 8 0 8 := by
        intro hc
        rcases hcur with ⟨e0, e⟩ | ⟨h, e⟩
        · rw [List.take_of_length_le (by omega)]
        · have := (hb1 _ (List.mem_of_getElem? e)).2
          dsimp only at this; omega
      k_steps
      refine Stop.mk ?_
      refine wpAny_mono (Q := fun fl s' => Stop (∃ (nv' : List Value) (kn' : Nat) (tn' : List (Addr × Obj)) (h' : Heap) (tk' : Nat), fl = .next ∧ s' = { s with heap := h', toks := tk' } ∧ TupsIn tn' nv' (blk f.cps.toList g.cps.toList 0 8 0 8) ∧ (∀ p ∈ tn', p.1 ≠ na) ∧
        Fr s.heap L' h' (frN xI qA mb na ta tb (c1, c2, c3) x1 x2 x3 u1 u2 u3 w1 w2 w3 w4 w5 w6 w7 w8) ∧ News s.heap L' h' ((na, W.listOf nv'.toArray kn') :: (tn' ++ R0)))) ?_ ?_ (fun _ _ e => e)
      · have hgo := Go.mk
        generalize hTT : tn ++ R0 = TT at N9 hTn
        k_steps
        all_goals (rename Fr s.heap _ _ _ => F11)
        all_goals (rename News s.heap _ _ _ => N11)
        · (rename _ < _ ∧ _ => l1)
          (rename _ ≠ (0 : Int) => q1)
          exact Stop.mk <| mrg_last (hcp (by intro e; exact q1 (by show ((c3 : Nat) : Int) = 0; omega))).2 hT htn hTT l1 F11 N11
        · (rename _ = (0 : Int) => q1)
          rw [← hTT] at N11
          refine ⟨nv, kn, tn, _, _, rfl, rfl, ?_, htn, F11, N11⟩
          rw [← hcz (by have : ((c3 : Nat) : Int) = 0 := q1; omega)]
          exact hT
      · rintro fl s' ⟨⟨nv', kn', tn', h', tk', rfl, rfl, hT', htn', F11, N11⟩⟩
        clear F9 N9 hT htn hTn hnl hcp hcz hcur
        have hTn : ∀ p ∈ tn' ++ R0, p.1 ≠ na := by
          intro p hp
          rcases List.mem_append.mp hp with hp | hp
          · exact htn' p hp
          · exact (hmR p hp).2
        have hnl : nv'.length ≤ 5 := by rw [hT'.length]; exact hb5
        k_steps
        refine Stop.mk ?_
        (rename Fr s.heap L' _ _ => F13)
        (rename News s.heap L' _ _ => N13)
        rw [List.push_toArray] at N13
        refine map_K F13 N13 (.tail _ (.tail _ (.head _))) ?_
        intro it IT I h14 F14 N14 l14 l15 l16
        clear F13 N13
        k_steps
        refine Stop.mk ?_
        (rename Fr s.heap L' _ _ => F15)
        (rename News s.heap L' _ _ => N15)
        refine list_map_K (bl := blk f.cps.toList g.cps.toList 0 8 0 8 ++ [(8, 8, 0)]) (t_make w rfl rfl) (by show dp + 1 + 4 < recursionLimit; omega) (by show un + 3 + 110 < cLine; omega) ⟨rfl, F15, _, _, _, _, _, _, _, rfl, rfl, rfl, B, X, T⟩ F15 N15 (.tail _ (.head _)) (.head _) (.tail _ (.tail _ (.head _))) (.tail _ (.tail _ (.tail _ (.tail _ (.head _))))) ?n1 ?n2 ?n3 ?n4
        case n1 =>
          intro p hp
          rcases List.mem_cons.mp hp with rfl | hp
          · exact Nat.ne_of_gt l15
          rcases List.mem_cons.mp hp with rfl | hp
          · exact Nat.ne_of_gt (Nat.lt_trans l15 l16)
          · exact Nat.ne_of_lt (l14 p hp)
        case n2 => exact (hT'.more fun p hp => .tail _ (.tail _ (.tail _ (.tail _ (.tail _ (List.mem_append_left _ hp)))))).append ⟨⟨_, _, _, _, rfl, .tail _ (.tail _ (.tail _ (.head _)))⟩, trivial⟩
        case n3 => rw [List.length_append]; simp; omega
        case n4 =>
          intro r h16 tk16 made acc c16 F16 N16 hne16 hM16 hcl16
          have hrx : xI ≠ r ∧ dI ≠ r := by
            refine ⟨hne16 (xI, instObj 313 dI) (List.mem_append_right _ ?_), hne16 (dI, dictOf (attrs1 w.params f g b2 jk pp .none t u t1 t2 t3 t4 t5 t6 t7 t8 t9 t10) 10) (List.mem_append_right _ ?_)⟩
            · exact .tail _ (.tail _ (.tail _ (.tail _ (.tail _ (List.mem_append_right _ (by rw [← hR0]; exact .tail _ (.head _)))))))
            · exact .tail _ (.tail _ (.tail _ (.tail _ (.tail _ (List.mem_append_right _ (by rw [← hR0]; exact .tail _ (.tail _ (.head _))))))))
          have N17 := news_sub N16 (led := (xI, instObj 313 dI) :: (dI, dictOf (attrs1 w.params f g b2 jk pp .none t u t1 t2 t3 t4 t5 t6 t7 t8 t9 t10) 10) :: (r, W.listOf acc.toArray c16) :: made) (by
            intro p hp
            rcases List.mem_cons.mp hp with rfl | hp
            · exact .tail _ (List.mem_append_right _ (.tail _ (.tail _ (.tail _ (.tail _ (.tail _ (List.mem_append_right _ (by rw [← hR0]; exact .tail _ (.head _)))))))))
            rcases List.mem_cons.mp hp with rfl | hp
            · exact .tail _ (List.mem_append_right _ (.tail _ (.tail _ (.tail _ (.tail _ (.tail _ (List.mem_append_right _ (by rw [← hR0]; exact .tail _ (.tail _ (.head _))))))))))
            rcases List.mem_cons.mp hp with rfl | hp
            · exact .head _
            · exact .tail _ (List.mem_append_left _ hp))
          have hmd : ∀ p ∈ made, p.1 ≠ dI := fun p hp => news_ne2 N17 N17 (o := p.2) (.tail _ (.tail _ (.tail _ hp))) (.tail _ (.head _)) (by
            intro e
            rcases hcl16.1 p hp with q | q
            · have := congrArg Obj.cls e; rw [q] at this; cases this
            · have := congrArg Obj.data e; rw [q] at this; cases this)
          have hmx : ∀ p ∈ made, p.1 ≠ xI := fun p hp => news_ne2 N17 N17 (o := p.2) (.tail _ (.tail _ (.tail _ hp))) (.head _) (by
            intro e
            have h1 := congrArg Obj.cls e
            rcases hcl16.1 p hp with q | q
            · rw [q] at h1; cases h1
            · rw [q] at h1; cases h1)
          have hrd : r ≠ dI := hrx.2.symm
          have hrx' : r ≠ xI := hrx.1.symm
          clear N16 N15 F15
          simp only [attrs1, attr] at N17
          k_steps
          (rename Fr s.heap L' _ _ => F18)
          (rename News s.heap L' _ _ => N18)
          refine PEnd.intro F18 ⟨r, acc, made, c16, rfl, newIn_of N18 ?_, ?_⟩
          · intro p hp
            rcases List.mem_cons.mp hp with rfl | hp
            · simp
            · simp [hp]
          · rw [← blk_is hlf' hlg']; exact ⟨hM16, hcl16.2⟩
end Mine
end
section
open PySem PySem.W PySem.Calls PySem.Spec PyProof PyProof.Rows
set_option Elab.async false
namespace Mine
set_option linter.unusedVariables false
local macro_rules | `(tactic| walk_at "pyIter ref") => `(tactic| (refine stop_of ?_))
local macro_rules | `(tactic| walk_at "call ref") => `(tactic| (refine stop_of ?_))
local macro_rules | `(tactic| k_steps) => `(tactic| repeat' (first | (k_unfold; (try dsimp only)) | walk1 | (dsimp only; walk1) | (leave1; (try dsimp only)) | fail "no step"))
local macro_rules | `(tactic| walk_at "exec While Compare cons nil") => `(tactic| ((fail_if_success (rename Go => hgo)); refine stop_of ?_))
set_option hygiene false in
local macro_rules | `(tactic| walk_at "FRAME") => `(tactic| (intro y; (try dsimp only); (repeat (refine fr_step (fun hy => (by first | exact absurd hy (by assumption) | (subst hy; first | rfl | kernel_rfl))) fun hy => ?_)); (repeat (first | refine fr_last (by assumption) ?_ | refine fr_rstep (fun hy => (by subst hy; first | rfl | kernel_rfl)) fun hy => ?_)); (try rfl)))
set_option hygiene false in
local macro_rules | `(tactic| walk_at "PUR") => `(tactic| (k_dflt (refine' pur_intro (by omega) ?k6 ?k7 ?k9 ?kB ?_ ?c2 ?c3 ?c4 ?c5; (case k6 => k_is); (case k7 => k_is); (case k9 => (intro _ Xb; first | exact BindsTo.of_eq rfl | exact binds_K (by k_in) rfl (by k_is) rfl rfl rfl)); (case c5 => decide); (case kB => exact locs rfl); (case c2 => exact rfl); (case c3 => exact rfl); (case c4 => exact rfl)); k_whole; intro dp un gd env outer base mean mg mb s E L' h₁ tk hd hu hP F1 N2 B X T; (try dsimp only); (try k_fold)))
set_option hygiene false in
local macro_rules | `(tactic| walk_at "ROOM") => `(tactic| (first | omega | (simp only [Around.deeper, topE]; omega)))
set_option hygiene false in
local macro_rules | `(tactic| walk_at "SITE") => `(tactic| (refine ⟨rfl, by assumption, _, _, _, _, _, _, _, rfl, rfl, rfl, B, X, T⟩))
local macro_rules | `(tactic| walk_at "binaryOp Add ref ref") => `(tactic| (refine stop_of ?_))
set_option hygiene false in
local macro_rules | `(tactic| walk_at "SUB") => `(tactic| (intro p hp; (try simp only [List.mem_cons, List.mem_append, List.not_mem_nil, or_false, false_or] at hp ⊢); (repeat' (refine Or.elim hp (fun hp => ?_) fun hp => ?_)); (all_goals (simp only [hp, true_or, or_true]))))
local macro_rules | `(tactic| walk_at "binaryOp Add str str") => `(tactic| ((refine PyProof.Rows.add_str (hsz := ?hsz) ?_); (case hsz => (first | (simp only [Str.length_append, sizeLine_eq]; omega) | size_fits)); intro _ _))
local macro_rules | `(tactic| k_all) => `(tactic| (refine allLt_ne (by assumption) ?_; omega))
local macro_rules | `(tactic| k_all) => `(tactic| with_reducible assumption)
set_option hygiene false in
local macro_rules | `(tactic| walk_at "PURC") => `(tactic| (k_dflt (refine' pur_introC (by omega) ?k6 ?k7 ?k9 ?kB ?kD ?_ ?c2 ?c3 ?c4; (case k6 => k_is); (case k7 => k_is); (case k9 => (intro _ Xb; first | exact BindsTo.of_eq rfl | exact binds_K (by k_in) rfl (by k_is) rfl rfl rfl)); (case kB => exact rfl); (case kD => decide +kernel); (case c2 => exact rfl); (case c3 => exact rfl); (case c4 => exact rfl)); k_whole; intro dp un gd env outer base mean mg mb s E L' h₁ tk cells hd hu hP F1 N2 Y2 B X T; k_cells Y2; (try simp only [List.cons_append, List.nil_append] at N2); (try dsimp only); (try k_fold)))
local macro_rules | `(tactic| walk_at "compareOp Is str ref") => `(tactic| (refine wpAny_is_other (by rfl) (by intro x; cases x) ?_))
local macro_rules | `(tactic| walk_at "exec For Name Name cons nil") => `(tactic| (refine stop_of ?_))
set_option hygiene false in
local macro_rules | `(tactic| walk_at "OWN") => `(tactic| (k_dflt (refine' own_intro (by omega) ?k6 ?k7 ?k9 ?kB ?_ ?c2 ?c3 ?c4 ?c5; (case k6 => k_is); (case k7 => k_is); (case k9 => (intro _ Xb; first | exact BindsTo.of_eq rfl | exact binds_K (by k_in) rfl (by k_is) rfl rfl rfl)); (case c5 => decide); (case kB => exact locs rfl); (case c2 => exact rfl); (case c3 => exact rfl); (case c4 => exact rfl)); k_whole; intro dp un gd env outer base mean mg mb s E L' h₁ tk hd hu hP F1 N2 B X T; (try dsimp only); (try k_fold)))
set_option hygiene false in
local macro_rules | `(tactic| walk_at "CLS") => `(tactic| (k_dflt (refine' cls_intro (by omega) ?kh ?ki ?kj ?km ?k6 ?k7 ?k9 ?kB ?_ ?c2 ?c3 ?c4 ?c5; (case km => walk_at "MONO"); (case kh => k_is); (case ki => k_is); (case kj => k_is); (case k6 => k_is); (case k7 => k_is); (case k9 => (intro _ _ Xb; first | exact BindsTo.of_eq rfl | exact binds_K (by k_in) rfl (by k_is) rfl rfl rfl)); (case c5 => decide); (case kB => (intro _; exact locs rfl)); (case c2 => exact rfl); (case c3 => exact rfl); (case c4 => exact rfl)); k_whole; intro dp un gd env outer base mean mg mb s E L' h₁ tk xI dI hd hu lI F1 N2 B X T; (try dsimp only); (try k_fold)))
set_option hygiene false in
local macro_rules | `(tactic| walk_at "ENTER") => `(tactic| (refine' code_def ?k1 ?k2 ?k3 ?k4 ?k5 ?kA ?kF ?kK ?k6 ?k7 ?k8 ?k9 ?kB ?_ ?c2 ?c3 ?c4 ?c5; (case kA => exact rfl); (case kF => exact rfl); (case kK => exact rfl); (case k1 => k_asm); (case k2 => k_asm); (case k3 => k_asm); (case k4 => k_asm); (case k5 => k_asm); (case k6 => k_is); (case k7 => k_is); (case k8 => (simp only [depth_under_make, depth_under_kw, depth_in1, depth_deeper, depth_caller, topE]; omega)); (case k9 => first | exact BindsTo.of_eq rfl | exact binds_K (by k_in) rfl (by k_is) rfl rfl rfl | fail "k_enter: no rule for these arguments"); (case c5 => decide); (case kB => exact locs rfl); (case c2 => exact rfl); (case c3 => exact rfl); (case c4 => exact rfl); k_whole; intro g' L2' h' FG' F' N' B' X' T'; (try dsimp only); (try k_lift B'); (try k_fold)))
local macro_rules | `(tactic| walk_at "getMethod type:tuple") => `(tactic| (k_here; refine' method_type ?F ?X ?m (by decide +kernel) ?e ?h ?_; (case F => k_asm); (case X => k_asm); (case m => (first | rfl | kernel_rfl)); (case e => k_dflt k_is); (case h => k_handed)))
local macro_rules | `(tactic| walk_at "call type:type") => `(tactic| (refine stop_of ?_))
local macro_rules | `(tactic| walk_at "call builtin:issubclass") => `(tactic| (refine stop_of ?_))
local macro_rules | `(tactic| walk_at "call builtin:tuple.__getitem__") => `(tactic| (refine stop_of ?_))
section
variable {prog : Program} {w : World} {A : Around} {E : Value → Shared → Prop} {s : Shared}
theorem getitem_M {r : Addr} {items : Array Value} {i : Int} {t : Tok} {k : Nat} {y : Value} {Q : Value → Shared → Prop} (Y : MCls (model prog w) s.heap) (hr : IsM s.heap r items) (h1 : 0 ≤ i) (h2 : i < 100) (hk : seqIndex? i items.size = some k) (hy : items[k]? = some y) (h : Q y s) :
    wpAny (model prog w) A (call (.builtin "tuple.__getitem__") [.ref r, .int i t]) Q E s := by
  obtain ⟨o, ho, hc, n, hd⟩ := id hr
  refine call_sub (n := "__getitem__") (by decide +kernel) (by decide +kernel) (by decide +kernel) PySem.F.entry_tuple_getitem (hr.inst Y) (PySem.F.args_tuple_getitem_2 _ _) ?_
  obtain ⟨hp, g, d, tk, os⟩ := s
  have f1 := PySem.AutoSeq1.idx_int
  have hf : ¬ (decide (i < -2 ^ 63) || decide (i ≥ 2 ^ 63)) = true := by simp; omega
  unfold Builtin.«tuple.__getitem__»
  wp_walk using (wpAny_seqItems ho hd)
  simp only [hk, hy, Option.bind_some]
  refine wpAny_ite_false (by simp; omega) ?_
  wp_walk
  exact ⟨_, rfl, h⟩
end
theorem issub_meets : Meets (Builtin.«issubclass» ⟨[.ref 206, .type "tuple"], []⟩) (fun _ R s => (∀ M, TupCls M s.heap 206) ∧ R (.ok (.ret (.bool true))) s) := fun prog w A R s hs => issubclass_outer (by
  obtain ⟨hY, hR⟩ := hs
  have Y := hY (model prog w)
  have h1 := Y.sub
  have h2 := Y.typ
  obtain ⟨hp, g, d, tk, os⟩ := s
  have h3 : typeOf (.type "tuple") = pure (.type "type") := by rfl
  have h4 : isType (.type "tuple") = pure true := by rfl
  dsimp only at h1 h2 hR
  unfold Builtin.«issubclass.nested»
  refine wpAny_bind (wpAny_of_eq h3 ?_)
  rw [if_pos (by decide)]
  repeat (first | exact hR | lk)
  all_goals trace_state)
set_option maxRecDepth 100000 in
set_option maxHeartbeats 4000000 in
theorem t_get0 (w : World) : PySem.Challenge.rw_ik0097_01 = PySem.Challenge.rw_ik0097_01 → Kx = Kx → ∀ (r : Addr) (a b c : Value),
    Pur w 114 [.ref 195, .ref r, .ref 206] 4 70 (fun h => IsM h r #[a, b, c]) (fun h v h' => v = a) := by
  k_fill
  intro _ _ r a b c
  walk_at "PUR"
  have F2 := fr_as F1 (m' := fun (y : Str) => List.lookup y [("objtype", Value.ref 206), ("obj", Value.ref r), ("self", Value.ref 195)]) (by intro y; kernel_rfl)
  clear F1
  simp only [lk_cons, lk_nil] at F2
  k_steps
  refine Stop.mk ?_
  (rename Fr s.heap L' _ _ => F3)
  have hP1 : IsM _ r #[a, b, c] := hP.keep fun o e => F3.keep _ _ e
  obtain ⟨o, ho, hc, n, hdat⟩ := id hP1
  refine call_type_obj ho (by rw [hc]; decide) ?_
  rw [hc]
  k_steps
  refine Stop.mk ?_
  (rename Fr s.heap L' _ _ => F4)
  have hY : tupIn (Kx w.params) 206 = true := by kernel_rfl
  refine call_issubclass issub_meets ⟨fun M => tup_of (X.keeps F4.keep) hY, ?_⟩
  k_steps
  refine Stop.mk ?_
  (rename Fr s.heap L' _ _ => F5)
  have hP2 : IsM _ r #[a, b, c] := hP.keep fun o e => F5.keep _ _ e
  have Y := mcls_of w rfl rfl s.heap X
  refine getitem_M (k := 0) ⟨Y.iter.keeps F5.keep, Y.lt.keeps F5.keep, Y.len.keeps F5.keep, Y.sub.keeps F5.keep⟩ hP2 (by decide) (by decide) (by rfl) (by rfl) ?_
  exact PEnd.intro F5 rfl
set_option maxRecDepth 100000 in
set_option maxHeartbeats 4000000 in
theorem t_get1 (w : World) : PySem.Challenge.rw_ik0097_01 = PySem.Challenge.rw_ik0097_01 → Kx = Kx → ∀ (r : Addr) (a b c : Value),
    Pur w 114 [.ref 198, .ref r, .ref 206] 4 70 (fun h => IsM h r #[a, b, c]) (fun h v h' => v = b) := by
  k_fill
  intro _ _ r a b c
  walk_at "PUR"
  have F2 := fr_as F1 (m' := fun (y : Str) => List.lookup y [("objtype", Value.ref 206), ("obj", Value.ref r), ("self", Value.ref 198)]) (by intro y; kernel_rfl)
  clear F1
  simp only [lk_cons, lk_nil] at F2
  k_steps
  refine Stop.mk ?_
  (rename Fr s.heap L' _ _ => F3)
  have hP1 : IsM _ r #[a, b, c] := hP.keep fun o e => F3.keep _ _ e
  obtain ⟨o, ho, hc, n, hdat⟩ := id hP1
  refine call_type_obj ho (by rw [hc]; decide) ?_
  rw [hc]
  k_steps
  refine Stop.mk ?_
  (rename Fr s.heap L' _ _ => F4)
  have hY : tupIn (Kx w.params) 206 = true := by kernel_rfl
  refine call_issubclass issub_meets ⟨fun M => tup_of (X.keeps F4.keep) hY, ?_⟩
  k_steps
  refine Stop.mk ?_
  (rename Fr s.heap L' _ _ => F5)
  have hP2 : IsM _ r #[a, b, c] := hP.keep fun o e => F5.keep _ _ e
  have Y := mcls_of w rfl rfl s.heap X
  refine getitem_M (k := 1) ⟨Y.iter.keeps F5.keep, Y.lt.keeps F5.keep, Y.len.keeps F5.keep, Y.sub.keeps F5.keep⟩ hP2 (by decide) (by decide) (by rfl) (by rfl) ?_
  exact PEnd.intro F5 rfl
set_option maxRecDepth 100000 in
set_option maxHeartbeats 4000000 in
theorem t_get2 (w : World) : PySem.Challenge.rw_ik0097_01 = PySem.Challenge.rw_ik0097_01 → Kx = Kx → ∀ (r : Addr) (a b c : Value),
    Pur w 114 [.ref 201, .ref r, .ref 206] 4 70 (fun h => IsM h r #[a, b, c]) (fun h v h' => v = c) := by
  k_fill
  intro _ _ r a b c
  walk_at "PUR"
  have F2 := fr_as F1 (m' := fun (y : Str) => List.lookup y [("objtype", Value.ref 206), ("obj", Value.ref r), ("self", Value.ref 201)]) (by intro y; kernel_rfl)
  clear F1
  simp only [lk_cons, lk_nil] at F2
  k_steps
  refine Stop.mk ?_
  (rename Fr s.heap L' _ _ => F3)
  have hP1 : IsM _ r #[a, b, c] := hP.keep fun o e => F3.keep _ _ e
  obtain ⟨o, ho, hc, n, hdat⟩ := id hP1
  refine call_type_obj ho (by rw [hc]; decide) ?_
  rw [hc]
  k_steps
  refine Stop.mk ?_
  (rename Fr s.heap L' _ _ => F4)
  have hY : tupIn (Kx w.params) 206 = true := by kernel_rfl
  refine call_issubclass issub_meets ⟨fun M => tup_of (X.keeps F4.keep) hY, ?_⟩
  k_steps
  refine Stop.mk ?_
  (rename Fr s.heap L' _ _ => F5)
  have hP2 : IsM _ r #[a, b, c] := hP.keep fun o e => F5.keep _ _ e
  have Y := mcls_of w rfl rfl s.heap X
  refine getitem_M (k := 2) ⟨Y.iter.keeps F5.keep, Y.lt.keeps F5.keep, Y.len.keeps F5.keep, Y.sub.keeps F5.keep⟩ hP2 (by decide) (by decide) (by rfl) (by rfl) ?_
  exact PEnd.intro F5 rfl
end Mine
end
section
open PySem PySem.W PySem.Calls PySem.Spec PyProof PyProof.Rows
set_option Elab.async false
set_option maxRecDepth 100000
namespace Mine
set_option linter.unusedVariables false
def es45 (P : Params) : Array DictEntry := match (k45 P).data with | .dict es _ => es | _ => #[]
def keyOk (e : DictEntry) : Bool := match e.key with | .int k _ => e.hash == hashInt k | _ => false
theorem es45_ok (P : Params) : (es45 P).toList.all keyOk = true := by kernel_rfl
theorem es45_keys (P : Params) : ∀ e ∈ es45 P, ∃ k : Int, Value.isInt k e.key = true ∧ e.hash = hashInt k := by
  intro e he
  have h := List.all_eq_true.mp (es45_ok P) e (Array.mem_toList_iff.mpr he)
  unfold keyOk at h
  split at h
  · rename_i k t hk
    exact ⟨k, by rw [hk]; simp [Value.isInt], by simpa using h⟩
  · cases h
theorem map45 {w : World} {h : Heap} {prog : Program} (X : (Kx w.params).In h) : h.MapOf (intKind prog w) 45 (fun k => findBy Value.isInt (es45 w.params) k) :=
  ⟨k45 w.params, es45 w.params, 24, X _ _ (by kernel_rfl), ⟨rfl, rfl, rfl⟩, rfl, es45_keys w.params, fun k => rfl⟩
theorem tab43 (P : Params) : findBy Value.isInt (es45 P) 43 = some (.str "\\+" 382) := by kernel_rfl
theorem tabNo (P : Params) : ∀ c ∈ [83, 71, 86, 115, 50, 56, 104], findBy Value.isInt (es45 P) ((c : Nat) : Int) = none := by
  intro c hc
  simp only [List.mem_cons, List.not_mem_nil, or_false] at hc
  rcases hc with rfl | rfl | rfl | rfl | rfl | rfl | rfl <;> kernel_rfl
section
variable {prog : Program} {w : World} {A : Around} {E : Value → Shared → Prop} {s : Shared}
theorem tl_none {c : Nat} {Q : Builtin.Str.Mapped → Shared → Prop} (hh : A.handled = none) {f : Int → Option Value} (hm : s.heap.MapOf (intKind prog w) 45 f) (hv : f (c : Nat) = none)
    (h : ∀ h' tk, s.heap.StaysIn h' → Q .keep { s with heap := h', toks := tk }) : wpAny (model prog w) A (Builtin.Str.tableLookup (.ref 45) c) Q E s := by
  unfold Builtin.Str.tableLookup
  refine wpAny_bind (wpAny_attempt (wpAny_bind (wpAny_mkInt ?_)))
  refine wpAny_getItem_missing_of (knd := intKind prog w) (by simp [intKind, Value.isInt]) (by decide) hh hm hv fun h' e hx => ?_
  dsimp only
  obtain ⟨ob, t, he, hc, _⟩ := hx.there
  refine wpAny_bind (wpAny_isInstance (T := "KeyError") (b := true) ⟨ob, he, hc⟩ (by rw [isSubtype_type]; kernel_rfl) ?_)
  rw [if_pos rfl]
  exact wpAny_bind (wpAny_rule (wpAny_pure (h h' _ hx.keeps)))
theorem tl_text {c : Nat} {x : Str} {t : Tok} {Q : Builtin.Str.Mapped → Shared → Prop} {f : Int → Option Value} (hm : s.heap.MapOf (intKind prog w) 45 f) (hv : f (c : Nat) = some (.str x t))
    (h : ∀ tk, Q (.text x) { s with toks := tk }) : wpAny (model prog w) A (Builtin.Str.tableLookup (.ref 45) c) Q E s := by
  unfold Builtin.Str.tableLookup
  refine wpAny_bind (wpAny_attempt (wpAny_bind (wpAny_mkInt ?_)))
  refine wpAny_getItem_of (knd := intKind prog w) (by simp [intKind, Value.isInt]) hm hv ?_
  dsimp only
  obtain ⟨hp, g, d, tk, os⟩ := s
  wp_walk
  exact h _
set_option maxHeartbeats 4000000 in
theorem tr_none {c : Nat} {t : Tok} {Q : Value → Shared → Prop} (hh : A.handled = none) (h0 : c < 128) {f : Int → Option Value} (hm : s.heap.MapOf (intKind prog w) 45 f) (hv : f (c : Nat) = none)
    (h : ∀ t' h' tk, s.heap.StaysIn h' → Q (.str ⟨#[c]⟩ t') { s with heap := h', toks := tk }) : wpAny (model prog w) A (call (.builtin "str.translate") [.str ⟨#[c]⟩ t, .ref 45]) Q E s := by
  refine wpAny_call_entry PySem.F.slot_str_translate rfl PySem.F.entry_str_translate ?_ (PySem.F.args_str_translate_2 _ _)
  unfold Builtin.«str.translate»
  obtain ⟨hp, g, d, tk, os⟩ := s
  dsimp only at hm h
  have hT : ∀ (tk' : Nat) (Q' : Builtin.Str.Mapped → Shared → Prop) (E' : Value → Shared → Prop), (∀ h' tk, hp.StaysIn h' → Q' .keep ⟨h', g, d, tk, os⟩) → wpAny (model prog w) A.in1 (Builtin.Str.tableLookup (.ref 45) c) Q' E' ⟨hp, g, d, tk', os⟩ := fun tk' Q' E' hq => tl_none (s := ⟨hp, g, d, tk', os⟩) hh hm hv hq
  refine wpAny_bind (wpAny_of_eq (a := (Value.str ⟨#[c]⟩ t, (⟨#[c]⟩ : Str), Value.ref 45)) (by first | rfl | kernel_rfl) ?_)
  dsimp only
  generalize Builtin.Str.tableLookup (.ref 45) = TL at hT ⊢
  rw [if_neg (by show ¬ ((1 : Nat) == 0) = true; decide)]
  simp only [List.forIn_toArray, List.forIn_cons, List.forIn_nil]
  have ef : (#[c].all fun x => decide (x < 128)) = true := by simp [h0]
  simp only [ef, if_true, show Builtin.Str.tooLong 0 = false from by decide, Bool.false_eq_true, if_false, List.lookup_nil]
  refine wpAny_bind (wpAny_bind (wpAny_bind (hT _ _ _ fun h' tk' hs => ?_)))
  dsimp only
  refine wpAny_bind (wpAny_pure ?_)
  dsimp only
  refine wpAny_pure (wpAny_pure ?_)
  dsimp only
  rw [if_neg (by decide)]
  exact wpAny_bind (wpAny_mkText (wpAny_pure ⟨_, rfl, h _ h' _ hs⟩))
set_option maxHeartbeats 4000000 in
theorem tr_text {c : Nat} {t : Tok} {x : Str} {tx : Tok} {Q : Value → Shared → Prop} (h0 : c < 128) {f : Int → Option Value} (hm : s.heap.MapOf (intKind prog w) 45 f) (hv : f (c : Nat) = some (.str x tx)) (hx : x.length = 2)
    (h : ∀ t' tk, Q (.str ⟨#[] ++ x.cps⟩ t') { s with toks := tk }) : wpAny (model prog w) A (call (.builtin "str.translate") [.str ⟨#[c]⟩ t, .ref 45]) Q E s := by
  refine wpAny_call_entry PySem.F.slot_str_translate rfl PySem.F.entry_str_translate ?_ (PySem.F.args_str_translate_2 _ _)
  unfold Builtin.«str.translate»
  obtain ⟨hp, g, d, tk, os⟩ := s
  dsimp only at hm h
  have hT : ∀ (tk' : Nat) (Q' : Builtin.Str.Mapped → Shared → Prop) (E' : Value → Shared → Prop), (∀ tk, Q' (.text x) ⟨hp, g, d, tk, os⟩) → wpAny (model prog w) A.in1 (Builtin.Str.tableLookup (.ref 45) c) Q' E' ⟨hp, g, d, tk', os⟩ := fun tk' Q' E' hq => tl_text (s := ⟨hp, g, d, tk', os⟩) hm hv hq
  refine wpAny_bind (wpAny_of_eq (a := (Value.str ⟨#[c]⟩ t, (⟨#[c]⟩ : Str), Value.ref 45)) (by first | rfl | kernel_rfl) ?_)
  dsimp only
  generalize Builtin.Str.tableLookup (.ref 45) = TL at hT ⊢
  rw [if_neg (by show ¬ ((1 : Nat) == 0) = true; decide)]
  simp only [List.forIn_toArray, List.forIn_cons, List.forIn_nil]
  have ef : (#[c].all fun x => decide (x < 128)) = true := by simp [h0]
  have el : (x.length == 1 && x.cps.all fun x => decide (x < 128)) = false := by rw [hx]; rfl
  simp only [ef, if_true, show Builtin.Str.tooLong 0 = false from by decide, Bool.false_eq_true, if_false, List.lookup_nil]
  refine wpAny_bind (wpAny_bind (wpAny_bind (hT _ _ _ fun tk' => ?_)))
  simp only [el, Bool.false_eq_true, if_false]
  refine wpAny_bind (wpAny_pure ?_)
  dsimp only
  refine wpAny_bind (wpAny_rule ?_)
  refine wpAny_bind (hT _ _ _ fun tk' => ?_)
  dsimp only
  refine wpAny_pure (wpAny_pure ?_)
  dsimp only
  rw [hx, if_neg (by decide)]
  have e1 : (List.foldl (fun acc (p : Str) => acc ++ p.cps) #[] [x].reverse) = #[] ++ x.cps := rfl
  rw [e1]
  have e2 : (#[] ++ x.cps).size = 2 := by rw [Array.size_append]; show 0 + x.length = 2; omega
  refine wpAny_bind (wpAny_mkStr (wpAny_pure ⟨_, rfl, h _ _⟩) ?_)
  show (#[] ++ x.cps).size ≤ sizeLine
  rw [e2, sizeLine_eq]; decide
end
end Mine
end
section
open PySem PySem.W PySem.Calls PySem.Spec PyProof PyProof.Rows
set_option Elab.async false
set_option maxRecDepth 100000
namespace Mine
set_option linter.unusedVariables false
local macro_rules | `(tactic| walk_at "pyIter ref") => `(tactic| (refine stop_of ?_))
local macro_rules | `(tactic| walk_at "call ref") => `(tactic| (refine stop_of ?_))
local macro_rules | `(tactic| k_steps) => `(tactic| repeat' (first | (k_unfold; (try dsimp only)) | walk1 | (dsimp only; walk1) | (leave1; (try dsimp only)) | fail "no step"))
local macro_rules | `(tactic| walk_at "exec While Compare cons nil") => `(tactic| ((fail_if_success (rename Go => hgo)); refine stop_of ?_))
set_option hygiene false in
local macro_rules | `(tactic| walk_at "FRAME") => `(tactic| (intro y; (try dsimp only); (repeat (refine fr_step (fun hy => (by first | exact absurd hy (by assumption) | (subst hy; first | rfl | kernel_rfl))) fun hy => ?_)); (repeat (first | refine fr_last (by assumption) ?_ | refine fr_rstep (fun hy => (by subst hy; first | rfl | kernel_rfl)) fun hy => ?_)); (try rfl)))
set_option hygiene false in
local macro_rules | `(tactic| walk_at "PUR") => `(tactic| (k_dflt (refine' pur_intro (by omega) ?k6 ?k7 ?k9 ?kB ?_ ?c2 ?c3 ?c4 ?c5; (case k6 => k_is); (case k7 => k_is); (case k9 => (intro _ Xb; first | exact BindsTo.of_eq rfl | exact binds_K (by k_in) rfl (by k_is) rfl rfl rfl)); (case c5 => decide); (case kB => exact locs rfl); (case c2 => exact rfl); (case c3 => exact rfl); (case c4 => exact rfl)); k_whole; intro dp un gd env outer base mean mg mb s E L' h₁ tk hd hu hP F1 N2 B X T; (try dsimp only); (try k_fold)))
set_option hygiene false in
local macro_rules | `(tactic| walk_at "ROOM") => `(tactic| (first | omega | (simp only [Around.deeper, topE]; omega)))
set_option hygiene false in
local macro_rules | `(tactic| walk_at "SITE") => `(tactic| (refine ⟨rfl, by assumption, _, _, _, _, _, _, _, rfl, rfl, rfl, B, X, T⟩))
local macro_rules | `(tactic| walk_at "binaryOp Add ref ref") => `(tactic| (refine stop_of ?_))
set_option hygiene false in
local macro_rules | `(tactic| walk_at "SUB") => `(tactic| (intro p hp; (try simp only [List.mem_cons, List.mem_append, List.not_mem_nil, or_false, false_or] at hp ⊢); (repeat' (refine Or.elim hp (fun hp => ?_) fun hp => ?_)); (all_goals (simp only [hp, true_or, or_true]))))
local macro_rules | `(tactic| walk_at "binaryOp Add str str") => `(tactic| ((refine PyProof.Rows.add_str (hsz := ?hsz) ?_); (case hsz => (first | (simp only [Str.length_append, sizeLine_eq]; omega) | size_fits)); intro _ _))
local macro_rules | `(tactic| k_all) => `(tactic| (refine allLt_ne (by assumption) ?_; omega))
local macro_rules | `(tactic| k_all) => `(tactic| with_reducible assumption)
set_option hygiene false in
local macro_rules | `(tactic| walk_at "PURC") => `(tactic| (k_dflt (refine' pur_introC (by omega) ?k6 ?k7 ?k9 ?kB ?kD ?_ ?c2 ?c3 ?c4; (case k6 => k_is); (case k7 => k_is); (case k9 => (intro _ Xb; first | exact BindsTo.of_eq rfl | exact binds_K (by k_in) rfl (by k_is) rfl rfl rfl)); (case kB => exact rfl); (case kD => decide +kernel); (case c2 => exact rfl); (case c3 => exact rfl); (case c4 => exact rfl)); k_whole; intro dp un gd env outer base mean mg mb s E L' h₁ tk cells hd hu hP F1 N2 Y2 B X T; k_cells Y2; (try simp only [List.cons_append, List.nil_append] at N2); (try dsimp only); (try k_fold)))
local macro_rules | `(tactic| walk_at "compareOp Is str ref") => `(tactic| (refine wpAny_is_other (by rfl) (by intro x; cases x) ?_))
local macro_rules | `(tactic| walk_at "exec For Name Name cons nil") => `(tactic| (refine stop_of ?_))
set_option hygiene false in
local macro_rules | `(tactic| walk_at "OWN") => `(tactic| (k_dflt (refine' own_intro (by omega) ?k6 ?k7 ?k9 ?kB ?_ ?c2 ?c3 ?c4 ?c5; (case k6 => k_is); (case k7 => k_is); (case k9 => (intro _ Xb; first | exact BindsTo.of_eq rfl | exact binds_K (by k_in) rfl (by k_is) rfl rfl rfl)); (case c5 => decide); (case kB => exact locs rfl); (case c2 => exact rfl); (case c3 => exact rfl); (case c4 => exact rfl)); k_whole; intro dp un gd env outer base mean mg mb s E L' h₁ tk hd hu hP F1 N2 B X T; (try dsimp only); (try k_fold)))
set_option hygiene false in
local macro_rules | `(tactic| walk_at "CLS") => `(tactic| (k_dflt (refine' cls_intro (by omega) ?kh ?ki ?kj ?km ?k6 ?k7 ?k9 ?kB ?_ ?c2 ?c3 ?c4 ?c5; (case km => walk_at "MONO"); (case kh => k_is); (case ki => k_is); (case kj => k_is); (case k6 => k_is); (case k7 => k_is); (case k9 => (intro _ _ Xb; first | exact BindsTo.of_eq rfl | exact binds_K (by k_in) rfl (by k_is) rfl rfl rfl)); (case c5 => decide); (case kB => (intro _; exact locs rfl)); (case c2 => exact rfl); (case c3 => exact rfl); (case c4 => exact rfl)); k_whole; intro dp un gd env outer base mean mg mb s E L' h₁ tk xI dI hd hu lI F1 N2 B X T; (try dsimp only); (try k_fold)))
set_option hygiene false in
local macro_rules | `(tactic| walk_at "ENTER") => `(tactic| (refine' code_def ?k1 ?k2 ?k3 ?k4 ?k5 ?kA ?kF ?kK ?k6 ?k7 ?k8 ?k9 ?kB ?_ ?c2 ?c3 ?c4 ?c5; (case kA => exact rfl); (case kF => exact rfl); (case kK => exact rfl); (case k1 => k_asm); (case k2 => k_asm); (case k3 => k_asm); (case k4 => k_asm); (case k5 => k_asm); (case k6 => k_is); (case k7 => k_is); (case k8 => (simp only [depth_under_make, depth_under_kw, depth_in1, depth_deeper, depth_caller, topE]; omega)); (case k9 => first | exact BindsTo.of_eq rfl | exact binds_K (by k_in) rfl (by k_is) rfl rfl rfl | fail "k_enter: no rule for these arguments"); (case c5 => decide); (case kB => exact locs rfl); (case c2 => exact rfl); (case c3 => exact rfl); (case c4 => exact rfl); k_whole; intro g' L2' h' FG' F' N' B' X' T'; (try dsimp only); (try k_lift B'); (try k_fold)))
local macro_rules | `(tactic| walk_at "call builtin:str.translate") => `(tactic| (refine stop_of ?_))
theorem gm_translate {M : Model} {A : Around} {E : Value → Shared → Prop} {s : Shared} {x : Str} {t : Tok} {pl : Sem Bool} {Q : Value × List Value → Shared → Prop} (h : Q (.builtin "str.translate", [.str x t]) s) : wpAny M A (getMethod (.str x t) "translate" pl) Q E s := by
  with_reducible exact GM.of (.str x t) (typeIs_str _ _ _) PySem.F.slot_str_translate PySem.F.type_str_translate GM.noRef h
local macro_rules | `(tactic| walk_at "getMethod str") => `(tactic| with_reducible refine gm_translate ?_)
/-- the signs that a glob of the law may have -/
abbrev okSigns : List Nat := [83, 71, 86, 115, 43, 50, 56, 104]
set_option maxRecDepth 100000 in
set_option maxHeartbeats 4000000 in
theorem t_escape (w : World) : PySem.Challenge.rw_ik0097_01 = PySem.Challenge.rw_ik0097_01 → Kx = Kx → ∀ (c : Nat) (t : Tok), c ∈ okSigns →
    Pur w 55 [.str ⟨#[c]⟩ t] 3 70 (fun _ => True) (fun h v h' => ∃ t', v = .str ⟨(escM c).toArray⟩ t') := by
  k_fill
  intro _ _ c t hc
  walk_at "PUR"
  have F2 := fr_as F1 (m' := fun (y : Str) => List.lookup y [("pattern", Value.str ⟨#[c]⟩ t)]) (by intro y; kernel_rfl)
  clear F1
  simp only [lk_cons, lk_nil] at F2
  k_steps
  refine Stop.mk ?_
  (rename Fr s.heap L' _ _ => F3)
  have h128 : c < 128 := by
    simp only [okSigns, List.mem_cons, List.not_mem_nil, or_false] at hc; omega
  have hm := map45 (prog := pw) (X.keeps F3.keep)
  by_cases h43 : c = 43
  · subst h43
    refine tr_text h128 hm (tab43 _) (by rfl) ?_
    intro t' tk'
    k_steps
    (rename Fr s.heap L' _ _ => F4)
    exact PEnd.intro F4 ⟨_, rfl⟩
  · refine tr_none rfl h128 hm (tabNo _ c (by simp only [okSigns, List.mem_cons, List.not_mem_nil, or_false] at hc ⊢; omega)) ?_
    intro t' h' tk' hs
    have F5 := F3.keeps hs
    have e : escM c = [c] := if_neg h43
    k_steps
    (rename Fr s.heap L' _ _ => F6)
    exact PEnd.intro F6 ⟨_, by rw [e]⟩
end Mine
end
section
open PySem PySem.W PySem.Calls PySem.Spec PyProof PyProof.Rows
set_option Elab.async false
namespace Mine
set_option linter.unusedVariables false
local macro_rules | `(tactic| walk_at "pyIter ref") => `(tactic| (refine stop_of ?_))
local macro_rules | `(tactic| walk_at "call ref") => `(tactic| (refine stop_of ?_))
local macro_rules | `(tactic| k_steps) => `(tactic| repeat' (first | (k_unfold; (try dsimp only)) | walk1 | (dsimp only; walk1) | (leave1; (try dsimp only)) | fail "no step"))
local macro_rules | `(tactic| walk_at "exec While Compare cons nil") => `(tactic| ((fail_if_success (rename Go => hgo)); refine stop_of ?_))
set_option hygiene false in
local macro_rules | `(tactic| walk_at "FRAME") => `(tactic| (intro y; (try dsimp only); (repeat (refine fr_step (fun hy => (by first | exact absurd hy (by assumption) | (subst hy; first | rfl | kernel_rfl))) fun hy => ?_)); (repeat (first | refine fr_last (by assumption) ?_ | refine fr_rstep (fun hy => (by subst hy; first | rfl | kernel_rfl)) fun hy => ?_)); (try rfl)))
set_option hygiene false in
local macro_rules | `(tactic| walk_at "PUR") => `(tactic| (k_dflt (refine' pur_intro (by omega) ?k6 ?k7 ?k9 ?kB ?_ ?c2 ?c3 ?c4 ?c5; (case k6 => k_is); (case k7 => k_is); (case k9 => (intro _ Xb; first | exact BindsTo.of_eq rfl | exact binds_K (by k_in) rfl (by k_is) rfl rfl rfl)); (case c5 => decide); (case kB => exact locs rfl); (case c2 => exact rfl); (case c3 => exact rfl); (case c4 => exact rfl)); k_whole; intro dp un gd env outer base mean mg mb s E L' h₁ tk hd hu hP F1 N2 B X T; (try dsimp only); (try k_fold)))
set_option hygiene false in
local macro_rules | `(tactic| walk_at "ROOM") => `(tactic| (first | omega | (simp only [Around.deeper, topE]; omega)))
set_option hygiene false in
local macro_rules | `(tactic| walk_at "SITE") => `(tactic| (refine ⟨rfl, by assumption, _, _, _, _, _, _, _, rfl, rfl, rfl, B, X, T⟩))
local macro_rules | `(tactic| walk_at "binaryOp Add ref ref") => `(tactic| (refine stop_of ?_))
set_option hygiene false in
local macro_rules | `(tactic| walk_at "SUB") => `(tactic| (intro p hp; (try simp only [List.mem_cons, List.mem_append, List.not_mem_nil, or_false, false_or] at hp ⊢); (repeat' (refine Or.elim hp (fun hp => ?_) fun hp => ?_)); (all_goals (simp only [hp, true_or, or_true]))))
local macro_rules | `(tactic| walk_at "binaryOp Add str str") => `(tactic| ((refine PyProof.Rows.add_str (hsz := ?hsz) ?_); (case hsz => (first | (simp only [Str.length_append, sizeLine_eq]; omega) | size_fits)); intro _ _))
local macro_rules | `(tactic| k_all) => `(tactic| (refine allLt_ne (by assumption) ?_; omega))
local macro_rules | `(tactic| k_all) => `(tactic| with_reducible assumption)
set_option hygiene false in
local macro_rules | `(tactic| walk_at "PURC") => `(tactic| (k_dflt (refine' pur_introC (by omega) ?k6 ?k7 ?k9 ?kB ?kD ?_ ?c2 ?c3 ?c4; (case k6 => k_is); (case k7 => k_is); (case k9 => (intro _ Xb; first | exact BindsTo.of_eq rfl | exact binds_K (by k_in) rfl (by k_is) rfl rfl rfl)); (case kB => exact rfl); (case kD => decide +kernel); (case c2 => exact rfl); (case c3 => exact rfl); (case c4 => exact rfl)); k_whole; intro dp un gd env outer base mean mg mb s E L' h₁ tk cells hd hu hP F1 N2 Y2 B X T; k_cells Y2; (try simp only [List.cons_append, List.nil_append] at N2); (try dsimp only); (try k_fold)))
local macro_rules | `(tactic| walk_at "compareOp Is str ref") => `(tactic| (refine wpAny_is_other (by rfl) (by intro x; cases x) ?_))
local macro_rules | `(tactic| walk_at "exec For Name Name cons nil") => `(tactic| (refine stop_of ?_))
set_option hygiene false in
local macro_rules | `(tactic| walk_at "OWN") => `(tactic| (k_dflt (refine' own_intro (by omega) ?k6 ?k7 ?k9 ?kB ?_ ?c2 ?c3 ?c4 ?c5; (case k6 => k_is); (case k7 => k_is); (case k9 => (intro _ Xb; first | exact BindsTo.of_eq rfl | exact binds_K (by k_in) rfl (by k_is) rfl rfl rfl)); (case c5 => decide); (case kB => exact locs rfl); (case c2 => exact rfl); (case c3 => exact rfl); (case c4 => exact rfl)); k_whole; intro dp un gd env outer base mean mg mb s E L' h₁ tk hd hu hP F1 N2 B X T; (try dsimp only); (try k_fold)))
set_option hygiene false in
local macro_rules | `(tactic| walk_at "CLS") => `(tactic| (k_dflt (refine' cls_intro (by omega) ?kh ?ki ?kj ?km ?k6 ?k7 ?k9 ?kB ?_ ?c2 ?c3 ?c4 ?c5; (case km => walk_at "MONO"); (case kh => k_is); (case ki => k_is); (case kj => k_is); (case k6 => k_is); (case k7 => k_is); (case k9 => (intro _ _ Xb; first | exact BindsTo.of_eq rfl | exact binds_K (by k_in) rfl (by k_is) rfl rfl rfl)); (case c5 => decide); (case kB => (intro _; exact locs rfl)); (case c2 => exact rfl); (case c3 => exact rfl); (case c4 => exact rfl)); k_whole; intro dp un gd env outer base mean mg mb s E L' h₁ tk xI dI hd hu lI F1 N2 B X T; (try dsimp only); (try k_fold)))
set_option hygiene false in
local macro_rules | `(tactic| walk_at "ENTER") => `(tactic| (refine' code_def ?k1 ?k2 ?k3 ?k4 ?k5 ?kA ?kF ?kK ?k6 ?k7 ?k8 ?k9 ?kB ?_ ?c2 ?c3 ?c4 ?c5; (case kA => exact rfl); (case kF => exact rfl); (case kK => exact rfl); (case k1 => k_asm); (case k2 => k_asm); (case k3 => k_asm); (case k4 => k_asm); (case k5 => k_asm); (case k6 => k_is); (case k7 => k_is); (case k8 => (simp only [depth_under_make, depth_under_kw, depth_in1, depth_deeper, depth_caller, topE]; omega)); (case k9 => first | exact BindsTo.of_eq rfl | exact binds_K (by k_in) rfl (by k_is) rfl rfl rfl | fail "k_enter: no rule for these arguments"); (case c5 => decide); (case kB => exact locs rfl); (case c2 => exact rfl); (case c3 => exact rfl); (case c4 => exact rfl); k_whole; intro g' L2' h' FG' F' N' B' X' T'; (try dsimp only); (try k_lift B'); (try k_fold)))
set_option hygiene false in
local macro_rules | `(tactic| walk_at "getAttr ref") => `(tactic| (k_here; (with_reducible show wpAny _ _ (getAttr (Value.ref _) (PySem.Str.ofString "__contains__") true) _ _ _); k_dflt (refine' bound_set_K (knd := PySem.strKind _ _) ?F ?N ?m ?S ?_; (case F => k_asm); (case N => k_asm); (case m => k_mem); (case S => k_asm)); intro qS' h' tk' F' N' lB'; (try k_lt lB')))
set_option hygiene false in
local macro_rules | `(tactic| walk_at "getAttr ref") => `(tactic| (k_here; (with_reducible show wpAny _ _ (getAttr (Value.ref _) (PySem.Str.ofString "get") true) _ _ _); k_dflt (refine' bound_dict_K (knd := intKind _ _) ?F ?N ?m ?S ?_; (case F => k_asm); (case N => k_asm); (case m => k_mem); (case S => k_asm)); intro qG' h' tk' F' N' lB'; (try k_lt lB')))
set_option hygiene false in
local macro_rules | `(tactic| walk_at "getAttr ref") => `(tactic| (k_here; (with_reducible show wpAny _ _ (getAttr (Value.ref _) (PySem.Str.ofString "append") true) _ _ _); k_dflt (refine' bound_list_K ?F ?N ?m ?_; (case F => k_asm); (case N => k_asm); (case m => k_mem)); intro qA' h' tk' F' N' lB'; (try k_lt lB')))
local macro_rules | `(tactic| walk_at "callWith ref") => `(tactic| (k_here; k_dflt (refine' callWith_bound ?bN ?bM ?_; (case bN => k_asm); (case bM => k_mem); k_whole)))
local macro_rules | `(tactic| walk_at "And") => `(tactic| ((with_reducible show BoundAt _ _ _ _ ∧ _); k_dflt (refine ⟨BoundAt.of (by k_asm) (by k_mem), ?_⟩); (try dsimp only [List.nil_append, List.cons_append])))
local macro_rules | `(tactic| walk_at "truthy ref") => `(tactic| (refine stop_of ?_))
local macro_rules | `(tactic| walk_at "subscriptTail Name UnaryOp ref int") => `(tactic| (refine stop_of ?_))
local macro_rules | `(tactic| walk_at "compareOp IsNot") => `(tactic| (refine stop_of ?_))
local macro_rules | `(tactic| walk_at "compareOp IsNot ref ref") => `(tactic| (refine stop_of ?_))
local macro_rules | `(tactic| walk_at "compareOp IsNot str ref") => `(tactic| (refine stop_of ?_))
local macro_rules | `(tactic| walk_at "exec If") => `(tactic| ((fail_if_success (rename Go => hgo)); refine stop_of ?_))
def trStep (acc : List (Option (List Nat))) (c : Nat) : List (Option (List Nat)) := if c = 42 then (if acc.getLast? = some none then acc else acc ++ [none]) else acc ++ [some (escM c)]
/-- the items that _translate gives -/
def transM (l : List Nat) : List (Option (List Nat)) := l.foldl trStep []
theorem transM_succ {l : List Nat} {i c : Nat} (h : l[i]? = some c) : transM (l.take (i + 1)) = trStep (transM (l.take i)) c := by
  unfold transM; rw [take_succ_of h, List.foldl_append]; rfl
theorem PartsOf.append {st : Addr} : ∀ {vs vs' : List Value} {xs xs' : List (Option (List Nat))}, PartsOf st vs xs → PartsOf st vs' xs' → PartsOf st (vs ++ vs') (xs ++ xs')
  | [], _, [], _, _, h => h
  | _ :: _, _, none :: _, _, ⟨a, h⟩, h' => ⟨a, PartsOf.append h h'⟩
  | _ :: _, _, some _ :: _, _, ⟨a, h⟩, h' => ⟨a, PartsOf.append h h'⟩
  | [], _, none :: _, _, h, _ => h.elim
  | [], _, some _ :: _, _, h, _ => h.elim
  | _ :: _, _, [], _, h, _ => h.elim
theorem PartsOf.len {st : Addr} : ∀ {vs : List Value} {xs : List (Option (List Nat))}, PartsOf st vs xs → vs.length = xs.length
  | [], [], _ => rfl
  | _ :: _, none :: _, ⟨_, h⟩ => congrArg (· + 1) (PartsOf.len h)
  | _ :: _, some _ :: _, ⟨_, h⟩ => congrArg (· + 1) (PartsOf.len h)
  | [], none :: _, h => h.elim
  | [], some _ :: _, h => h.elim
  | _ :: _, [], h => h.elim
theorem PartsOf.last {st : Addr} : ∀ {vs : List Value} {xs : List (Option (List Nat))} {x : Option (List Nat)}, PartsOf st vs (xs ++ [x]) → ∃ vs' v, vs = vs' ++ [v] ∧ PartsOf st vs' xs ∧ match x with | none => v = .ref st | some y => ∃ t, v = .str ⟨y.toArray⟩ t
  | [], [], none, h => h.elim
  | [], [], some _, h => h.elim
  | [], none :: _, _, h => h.elim
  | [], some _ :: _, _, h => h.elim
  | v :: vs, [], none, ⟨e, h⟩ => by
    cases vs with
    | nil => exact ⟨[], v, rfl, trivial, e⟩
    | cons _ _ => exact h.elim
  | v :: vs, [], some y, ⟨e, h⟩ => by
    cases vs with
    | nil => exact ⟨[], v, rfl, trivial, e⟩
    | cons _ _ => exact h.elim
  | v :: vs, none :: xs, x, ⟨e, h⟩ => by
    obtain ⟨vs', u, e1, e2, e3⟩ := PartsOf.last (xs := xs) h
    exact ⟨v :: vs', u, by rw [e1]; rfl, ⟨e, e2⟩, e3⟩
  | v :: vs, some y :: xs, x, ⟨e, h⟩ => by
    obtain ⟨vs', u, e1, e2, e3⟩ := PartsOf.last (xs := xs) h
    exact ⟨v :: vs', u, by rw [e1]; rfl, ⟨e, e2⟩, e3⟩
theorem transM_len (l : List Nat) : (transM l).length ≤ l.length := by
  have : ∀ (l : List Nat) (acc : List (Option (List Nat))), (l.foldl trStep acc).length ≤ acc.length + l.length := by
    intro l
    induction l with
    | nil => intro acc; exact Nat.le_refl _
    | cons c l ih =>
      intro acc
      refine Nat.le_trans (ih _) ?_
      unfold trStep
      simp only [List.length_cons]
      split
      · split
        · omega
        · simp only [List.length_append, List.length_cons, List.length_nil]; omega
      · simp only [List.length_append, List.length_cons, List.length_nil]; omega
  simpa [transM] using this l []
abbrev frT (pat q : Str) (tp tq ti tn : Tok) (st r b : Addr) (i n : Nat) (uc : Option Value) : Str → Option Value := fun (v : Str) =>
  if v = "c" then uc else if v = "n" then some (.int (n : Nat) tn) else if v = "i" then some (.int (i : Nat) ti) else if v = "add" then some (.ref b) else if v = "res" then some (.ref r) else
  if v = "QUESTION_MARK" then some (.str q tq) else if v = "STAR" then some (.ref st) else if v = "pat" then some (.str pat tp) else none
set_option maxRecDepth 100000 in
set_option maxHeartbeats 4000000 in
theorem t_trans (w : World) : PySem.Challenge.rw_ik0097_01 = PySem.Challenge.rw_ik0097_01 → Kx = Kx → ∀ (pat q : Str) (tp tq : Tok) (st : Addr), pat.length ≤ 40 → (∀ c ∈ pat.cps.toList, c = 42 ∨ c ∈ okSigns) →
    Pur w 62 [.str pat tp, .ref st, .str q tq] 6 200 (fun _ => True) (fun h v h' => ∃ r vs k, v = .ref r ∧ NewIn h h' [(r, W.listOf vs.toArray k)] ∧ PartsOf st vs (transM pat.cps.toList)) := by
  k_fill
  intro _ _ pat q tp tq st hlen hok
  walk_at "PUR"
  have F2 := fr_as F1 (m' := fun (y : Str) => List.lookup y [("QUESTION_MARK", Value.str q tq), ("STAR", Value.ref st), ("pat", Value.str pat tp)]) (by intro y; kernel_rfl)
  clear F1
  simp only [lk_cons, lk_nil] at F2
  k_steps
  (rename Fr s.heap L' _ _ => F3)
  (rename News s.heap L' _ _ => N3)
  refine Stop.mk ?_
  rename_i rA _ _ _ _ _ _ _ _ _ _ _
  have hpl : pat.cps.toList.length = pat.length := by simp [Str.length]
  have N4 := news_sub N3 (led := [(qA', boundObj "list.append" rA), (rA, W.listOf ([] : List Value).toArray 0)]) (fun p hp => .tail _ hp)
  obtain ⟨ti0, tn0, F4⟩ : ∃ ti0 tn0, Fr s.heap L' _ (frT pat q tp tq ti0 tn0 st rA qA' 0 pat.length none) := ⟨_, _, fr_as F3 (by walk_at "FRAME")⟩
  clear F3 N3
  refine While_done (n₀ := pat.length) (fun n m' nw => ∃ (i : Nat) (ti : Tok) (uc : Option Value) (vs : List Value) (k : Nat), n = pat.length - i ∧ i ≤ pat.length ∧ m' = frT pat q tp tq ti tn0 st rA qA' i pat.length uc ∧ nw = [(qA', boundObj "list.append" rA), (rA, W.listOf vs.toArray k)] ∧ PartsOf st vs (transM (pat.cps.toList.take i)))
    (fun m' nw => ∃ (ti : Tok) (uc : Option Value) (vs : List Value) (k : Nat), m' = frT pat q tp tq ti tn0 st rA qA' pat.length pat.length uc ∧ nw = [(qA', boundObj "list.append" rA), (rA, W.listOf vs.toArray k)] ∧ PartsOf st vs (transM pat.cps.toList)) F4 N4 ?hj ?turn ?done
  case hj => exact ⟨0, ti0, none, [], 0, rfl, Nat.zero_le _, rfl, rfl, trivial⟩
  case done =>
    clear F4 N4
    rintro m1 nw1 h1 tk1 ⟨ti, uc, vs, k, rfl, rfl, hP5⟩ F4 N4
    k_steps
    · exact PEnd.intro F4 ⟨rA, vs, k, rfl, newIn_of N4 (fun p hp => by rw [List.mem_singleton.mp hp]; exact .tail _ (.head _)), hP5⟩
    · (rename (pat.length : Int) ≠ (pat.length : Int) => q)
      exact absurd rfl q
  case turn =>
    clear F4 N4
    rintro n m1 nw1 h1 tk1 F4 N4 ⟨i, ti, uc, vs, k, rfl, hi, rfl, rfl, hP5⟩
    have hvl : vs.length ≤ 40 := by
      rw [hP5.len]
      refine Nat.le_trans (transM_len _) ?_
      rw [List.length_take]; omega
    k_steps
    refine stop_if (fun hlt => ?_) (fun hge => ?_)
    · have hlt' : i < pat.length := by simpa using hlt
      have hc : ∃ c, pat.cps.toList[i]? = some c := ⟨_, List.getElem?_eq_getElem (by omega)⟩
      obtain ⟨c, hc⟩ := hc
      have hcm := hok c (List.mem_of_getElem? hc)
      have hitem : Txt.item pat (i : Int) = ⟨#[c]⟩ := by
        rw [item_is, List.getD_eq_getElem?_getD, hc]; rfl
      have hstep := transM_succ hc
      refine stop_wp ?_
      have eqc : ∀ (k : Nat), (Txt.item pat (i : Int) == (⟨#[k]⟩ : Str)) = decide (c = k) := by
        intro k
        rw [hitem]
        by_cases h : c = k
        · subst h; simp
        · simp [h]
      k_steps
      refine Stop.mk ?_
      have hgo := Go.mk
      walk1
      clear hgo
      k_steps
      · (rename (Txt.item pat _ == Str.ofString "*") = true => q42)
        rw [show Str.ofString "*" = (⟨#[42]⟩ : Str) from rfl, eqc] at q42
        obtain rfl : c = 42 := of_decide_eq_true q42
        clear hitem eqc hcm
        refine Stop.mk ?_
        have hgo := Go.mk
        walk1
        clear hgo
        k_steps
        refine Stop.mk ?_
        (rename Fr s.heap L' _ _ => F5)
        (rename News s.heap L' _ _ => N5)
        refine wpAny_truthy_list (items := vs.toArray) ⟨_, N5.get (.tail _ (.head _)), rfl, _, rfl⟩ (by simp; omega) ?_
        rcases List.eq_nil_or_concat (transM (pat.cps.toList.take i)) with e | ⟨xs, x, e⟩
        · rw [e] at hP5 hstep
          obtain rfl : vs = [] := by cases vs with | nil => rfl | cons _ _ => exact hP5.elim
          rw [show (!([] : List Value).toArray.isEmpty) = false from rfl]
          have hgo := Go.mk
          k_steps
          refine Stop.mk ?_
          refine boundCall_append (its := #[]) F5 N5 (.head _) (by k_updF) (by decide) ?_
          intro h7 F7 N7
          k_steps
          (rename Fr s.heap L' _ _ => F8)
          (rename News s.heap L' _ _ => N8)
          have F9 := fr_as F8 (m' := frT pat q tp tq _ tn0 st rA qA' (i + 1) pat.length (some (.str (Txt.item pat (i : Int)) _))) (by walk_at "FRAME")
          refine Stop.mk (WhileStep.intro F9 N8 (n' := pat.length - (i + 1)) (by omega) ⟨i + 1, _, _, [.ref st], _, rfl, by omega, rfl, rfl, ?_⟩)
          rw [hstep]
          exact ⟨rfl, trivial⟩
        · rw [List.concat_eq_append] at e
          rw [e] at hP5 hstep
          obtain ⟨vs', v, rfl, hP6, hv⟩ := hP5.last
          rw [show (!(vs' ++ [v]).toArray.isEmpty) = true by simp]
          have hgo := Go.mk
          k_steps
          refine Stop.mk ?_
          refine getLast N5 (.tail _ (.head _)) ?_
          k_steps
          refine Stop.mk ?_
          cases x with
          | none =>
            dsimp only at hv
            subst hv
            refine wpAny_isNot_ref_self ?_
            k_steps
            (rename Fr s.heap L' _ _ => F8)
            (rename News s.heap L' _ _ => N8)
            have F9 := fr_as F8 (m' := frT pat q tp tq _ tn0 st rA qA' (i + 1) pat.length (some (.str (Txt.item pat (i : Int)) _))) (by walk_at "FRAME")
            refine Stop.mk (WhileStep.intro F9 N8 (n' := pat.length - (i + 1)) (by omega) ⟨i + 1, _, _, vs' ++ [.ref st], _, rfl, by omega, rfl, rfl, ?_⟩)
            rw [hstep]
            unfold trStep
            rw [if_pos rfl, if_pos (by simp)]
            exact hP5
          | some y =>
            obtain ⟨ty, rfl⟩ := hv
            refine wpAny_isNot_other (by rfl) (by intro x; cases x) ?_
            k_steps
            refine Stop.mk ?_
            refine boundCall_append F5 N5 (.head _) (by k_updF) (by rw [sizeLine_eq]; simp at hvl ⊢; omega) ?_
            intro h7 F7 N7
            k_steps
            (rename Fr s.heap L' _ _ => F8)
            (rename News s.heap L' _ _ => N8)
            have F9 := fr_as F8 (m' := frT pat q tp tq _ tn0 st rA qA' (i + 1) pat.length (some (.str (Txt.item pat (i : Int)) _))) (by walk_at "FRAME")
            rw [List.push_toArray] at N8
            refine Stop.mk (WhileStep.intro F9 N8 (n' := pat.length - (i + 1)) (by omega) ⟨i + 1, _, _, vs' ++ [.str ⟨y.toArray⟩ ty] ++ [.ref st], _, rfl, by omega, rfl, rfl, ?_⟩)
            rw [hstep]
            unfold trStep
            rw [if_pos rfl, if_neg (by simp)]
            exact hP5.append ⟨rfl, trivial⟩
      · (rename (Txt.item pat _ == Str.ofString "*") = false => q42)
        rw [show Str.ofString "*" = (⟨#[42]⟩ : Str) from rfl, eqc] at q42
        have h42 : c ≠ 42 := of_decide_eq_false q42
        have hcok : c ∈ okSigns := hcm.resolve_left h42
        have hno : c ≠ 63 ∧ c ≠ 91 := by simp only [okSigns, List.mem_cons, List.not_mem_nil, or_false] at hcok; omega
        refine Stop.mk ?_
        have hgo := Go.mk
        walk1
        clear hgo
        k_steps
        · (rename (Txt.item pat _ == Str.ofString "?") = true => q63)
          rw [show Str.ofString "?" = (⟨#[63]⟩ : Str) from rfl, eqc] at q63
          exact absurd (of_decide_eq_true q63) hno.1
        · refine Stop.mk ?_
          have hgo := Go.mk
          walk1
          clear hgo
          k_steps
          · (rename (Txt.item pat _ == Str.ofString "[") = true => q91)
            rw [show Str.ofString "[" = (⟨#[91]⟩ : Str) from rfl, eqc] at q91
            exact absurd (of_decide_eq_true q91) hno.2
          · refine Stop.mk ?_
            (rename Fr s.heap L' _ _ => F5)
            (rename News s.heap L' _ _ => N5)
            rw [hitem]
            refine pur_use (t_escape w rfl rfl c _ hcok) ⟨rfl, F5, _, _, _, _, _, _, _, rfl, rfl, rfl, B, X, T⟩ (by walk_at "ROOM") (by walk_at "ROOM") trivial ?_
            rintro _ h6 tk6 hs6 F6 ⟨t6, rfl⟩
            have N6 := news_stay N5 hs6
            clear F5 N5
            k_steps
            refine Stop.mk ?_
            refine boundCall_append F6 N6 (.head _) (by k_updF) (by rw [sizeLine_eq]; simp; omega) ?_
            intro h7 F7 N7
            k_steps
            (rename Fr s.heap L' _ _ => F8)
            (rename News s.heap L' _ _ => N8)
            have F9 := fr_as F8 (m' := frT pat q tp tq _ tn0 st rA qA' (i + 1) pat.length (some (.str (Txt.item pat (i : Int)) _))) (by walk_at "FRAME")
            rw [List.push_toArray] at N8
            refine Stop.mk (WhileStep.intro F9 N8 (n' := pat.length - (i + 1)) (by omega) ⟨i + 1, _, _, vs ++ [.str ⟨(escM c).toArray⟩ t6], _, rfl, by omega, rfl, rfl, ?_⟩)
            rw [hstep]
            unfold trStep
            rw [if_neg h42]
            exact hP5.append ⟨⟨_, rfl⟩, trivial⟩
    · obtain rfl : i = pat.length := by
        have : ¬ ((i : Int) < (pat.length : Int)) := by simpa using hge
        omega
      rw [List.take_of_length_le (by omega)] at hP5
      exact Stop.mk (WDone.intro F4 N4 ⟨ti, uc, vs, k, rfl, rfl, hP5⟩)
end Mine
end
section
open PySem PySem.W PySem.Calls PySem.Spec PyProof PyProof.Rows
set_option Elab.async false
namespace Mine
set_option linter.unusedVariables false
/-- the parts of a glob of pieces -/
def partsP : List (List Nat) → List (Option (List Nat))
  | [] => []
  | [p] => p.map fun c => some (escM c)
  | p :: q :: r => (p.map fun c => some (escM c)) ++ none :: partsP (q :: r)
theorem tr_chars : ∀ (p : List Nat) (acc : List (Option (List Nat))), (∀ c ∈ p, c ≠ 42) → p.foldl trStep acc = acc ++ p.map fun c => some (escM c)
  | [], acc, _ => by simp
  | c :: p, acc, h => by
    rw [List.foldl_cons, tr_chars p _ fun d hd => h d (.tail _ hd)]
    unfold trStep
    rw [if_neg (h c (.head _))]
    simp
theorem tr_star (acc : List (Option (List Nat))) (h : acc.getLast? ≠ some none) : [42, 42].foldl trStep acc = acc ++ [none] := by
  rw [List.foldl_cons, List.foldl_cons, List.foldl_nil]
  have e1 : trStep acc 42 = acc ++ [none] := by unfold trStep; rw [if_pos rfl, if_neg h]
  rw [e1]
  unfold trStep
  rw [if_pos rfl, if_pos (by simp)]
/-- the middle ones are not empty -/
def midOk : List (List Nat) → Prop
  | [] => True
  | [_] => True
  | _ :: q :: r => (r ≠ [] → q ≠ []) ∧ midOk (q :: r)
theorem tr_glob : ∀ (ps : List (List Nat)) (acc : List (Option (List Nat))), (∀ p ∈ ps, ∀ c ∈ p, c ≠ 42) → midOk ps → (ps.length ≤ 1 ∨ acc.getLast? ≠ some none ∨ ps.headD [] ≠ []) → (joinL [42, 42] ps).foldl trStep acc = acc ++ partsP ps
  | [], acc, _, _, _ => by simp [joinL, partsP]
  | [p], acc, h, _, _ => by simp only [joinL, partsP]; exact tr_chars p acc (h p (.head _))
  | p :: q :: r, acc, h, hm, hl => by
    simp only [joinL, partsP]
    rw [List.foldl_append, List.foldl_append, tr_chars p acc (h p (.head _))]
    have hg : (acc ++ p.map fun c => some (escM c)).getLast? ≠ some none := by
      rcases List.eq_nil_or_concat p with rfl | ⟨p', c, rfl⟩
      · rcases hl with h | h | h
        · simp at h
        · simpa using h
        · exact absurd rfl h
      · rw [List.concat_eq_append]; simp
    rw [tr_star _ hg, tr_glob (q :: r) _ (fun p hp => h p (.tail _ hp)) hm.2 ?_]
    · simp
    · cases r with
      | nil => exact .inl (Nat.le_refl _)
      | cons x r => exact .inr (.inr (hm.1 (by simp)))
theorem partsP_stars : ∀ ps : List (List Nat), ps ≠ [] → ((partsP ps).filter fun x => x.isNone).length = ps.length - 1
  | [], h => absurd rfl h
  | [p], _ => by simp [partsP, List.filter_map, Function.comp_def]
  | p :: q :: r, _ => by
    simp only [partsP, List.filter_append, List.length_append, List.filter_cons]
    have e : ((p.map fun c => some (escM c)).filter fun x => x.isNone).length = 0 := by simp [List.filter_map, Function.comp_def]
    rw [e, if_pos (by rfl), List.length_cons, partsP_stars (q :: r) (by simp)]
    simp
theorem esc_inj {c d : Nat} (h : escM c = escM d) : c = d := by
  unfold escM at h
  split at h <;> split at h <;> simp_all
/-- after the signs of a piece -/
def endsP (text p : List Nat) (E : List Nat) : List Nat := (E.filter fun e => decide (e + p.length ≤ text.length) && ((text.drop e).take p.length == p)).map (· + p.length)
theorem ends_chars (text : List Nat) : ∀ (p E : List Nat), (∀ e ∈ E, e ≤ text.length) → (p.map fun c => some (escM c)).foldl (endsStep text) E = endsP text p E
  | [], E, h => by
    unfold endsP
    have : E.filter (fun e => decide (e + ([] : List Nat).length ≤ text.length) && ((text.drop e).take ([] : List Nat).length == [])) = E := List.filter_eq_self.mpr fun e he => by simpa using h e he
    rw [this]
    simp
  | c :: p, E, h => by
    rw [List.map_cons, List.foldl_cons, ends_chars text p _ ?_]
    · unfold endsP endsStep
      rw [List.filter_map, List.map_map, List.filter_filter]
      have e1 : ∀ e ∈ E, (((fun e => decide (e + p.length ≤ text.length) && ((text.drop e).take p.length == p)) ∘ (· + 1)) e && (decide (e < text.length) && (escM c == escM (text.getD e 0)))) = (decide (e + (c :: p).length ≤ text.length) && ((text.drop e).take (c :: p).length == c :: p)) := by
        intro e he
        simp only [Function.comp, List.length_cons]
        by_cases hlt : e < text.length
        · have hd : text.drop e = text[e] :: text.drop (e + 1) := List.drop_eq_getElem_cons hlt
          rw [hd, List.take_succ_cons, List.getD_eq_getElem?_getD, List.getElem?_eq_getElem hlt, Option.getD_some]
          have e2 : (escM c == escM text[e]) = (text[e] == c) := by
            by_cases hc : text[e] = c
            · rw [hc]; simp
            · have : escM c ≠ escM text[e] := fun q => hc (esc_inj q).symm
              rw [beq_eq_false_iff_ne.mpr this, beq_eq_false_iff_ne.mpr hc]
          rw [e2, List.cons_beq_cons]
          have e4 : (e + 1 + p.length ≤ text.length) ↔ (e + (p.length + 1) ≤ text.length) := by omega
          have e3 : decide (e + 1 + p.length ≤ text.length) = decide (e + (p.length + 1) ≤ text.length) := decide_eq_decide.mpr e4
          rw [e3]
          simp only [hlt, decide_true, Bool.true_and]
          cases decide (e + (p.length + 1) ≤ text.length) <;> cases (text[e] == c) <;> simp
        · have : ¬ e + (p.length + 1) ≤ text.length := by omega
          simp [hlt, this]
      rw [List.filter_congr e1]
      refine List.map_congr_left fun e _ => ?_
      simp only [Function.comp, List.length_cons]; omega
    · intro e he
      unfold endsStep at he
      obtain ⟨d, hd, rfl⟩ := List.mem_map.mp he
      rw [List.mem_filter] at hd
      simp only [Bool.and_eq_true, decide_eq_true_eq] at hd
      omega
/-- the places from m on -/
def up (text : List Nat) (m : Nat) : List Nat := (List.range (text.length + 1)).filter fun e => decide (m ≤ e)
theorem findM_of {text q : List Nat} {place last k : Nat} (h1 : place ≤ k) (h2 : atB text q last k = true) (h3 : ∀ a, place ≤ a → a < k → atB text q last a = false) : findM text q place last = some k := by
  unfold findM
  rw [List.find?_range'_eq_some]
  have h4 := h2
  unfold atB at h4
  simp only [Bool.and_eq_true, decide_eq_true_eq] at h4
  exact ⟨h2, by rw [List.mem_range'_1]; omega, fun a ha hk => by rw [h3 a ha hk]; rfl⟩
theorem findM_none_of {text q : List Nat} {place last : Nat} (h : ∀ a, place ≤ a → atB text q last a = false) : findM text q place last = none := by
  unfold findM
  rw [List.find?_eq_none]
  intro a ha
  rw [h a (List.mem_range'_1.mp ha).1]; decide
theorem saidLoop_ge (text : List Nat) (last : Nat) : ∀ (qs : List (List Nat)) (pl r : Nat), saidLoop text last qs pl = some r → pl ≤ r
  | [], pl, r, h => by cases h; exact Nat.le_refl _
  | q :: qs, pl, r, h => by
    simp only [saidLoop] at h
    cases hf : findM text q pl last with
    | none => rw [hf] at h; cases h
    | some k =>
      rw [hf] at h
      have := saidLoop_ge text last qs _ r h
      have := (findM_some hf).1
      omega
theorem saidLoop_bound (text : List Nat) (last : Nat) (hl : last ≤ text.length) : ∀ (qs : List (List Nat)) (pl : Nat), pl ≤ last → saidLoop text last qs pl = match saidLoop text text.length qs pl with | some m => if m ≤ last then some m else none | none => none
  | [], pl, h => by simp only [saidLoop]; rw [if_pos h]
  | q :: qs, pl, h => by
    have hat : ∀ a, atB text q last a = true → atB text q text.length a = true := by
      intro a ha
      unfold atB at ha ⊢
      simp only [Bool.and_eq_true, decide_eq_true_eq] at ha ⊢
      exact ⟨by omega, ha.2⟩
    simp only [saidLoop]
    cases hf : findM text q pl text.length with
    | none =>
      have : findM text q pl last = none := findM_none_of fun a ha => by
        have := findM_none hf a ha
        cases hq : atB text q last a with
        | false => rfl
        | true => rw [hat a hq] at this; cases this
      rw [this]
    | some k =>
      obtain ⟨k1, k2, k3, k4⟩ := findM_some hf
      by_cases hk : k + q.length ≤ last
      · have : findM text q pl last = some k := findM_of k1 (by unfold atB; simp [hk, k3]) fun a ha hak => by
          have := k4 a ha hak
          cases hq : atB text q last a with
          | false => rfl
          | true => rw [hat a hq] at this; cases this
        rw [this]
        exact saidLoop_bound text last hl qs _ hk
      · have : findM text q pl last = none := findM_none_of fun a ha => by
          cases hq : atB text q last a with
          | false => rfl
          | true =>
            have h5 := hq
            unfold atB at h5
            simp only [Bool.and_eq_true, decide_eq_true_eq] at h5
            have : k ≤ a := by
              rcases Nat.lt_or_ge a k with h | h
              · have := k4 a ha h; rw [hat a hq] at this; cases this
              · exact h
            omega
        rw [this]
        dsimp only
        cases hs : saidLoop text text.length qs (k + q.length) with
        | none => rfl
        | some m =>
          have := saidLoop_ge _ _ _ _ _ hs
          dsimp only
          rw [if_neg (by omega)]
theorem ends_mem {text q : List Nat} {m e : Nat} : e ∈ endsP text q (up text m) ↔ ∃ d, e = d + q.length ∧ m ≤ d ∧ atB text q text.length d = true := by
  unfold endsP up atB
  rw [List.mem_map]
  constructor
  · rintro ⟨d, hd, rfl⟩
    rw [List.mem_filter, List.mem_filter] at hd
    simp only [decide_eq_true_eq] at hd
    exact ⟨d, rfl, hd.1.2, hd.2⟩
  · rintro ⟨d, rfl, h1, h2⟩
    refine ⟨d, ?_, rfl⟩
    rw [List.mem_filter, List.mem_filter, List.mem_range]
    have h3 := h2
    simp only [Bool.and_eq_true, decide_eq_true_eq] at h3
    exact ⟨⟨by omega, by simpa using h1⟩, h2⟩
theorem ends_sorted (text q : List Nat) (m : Nat) : (endsP text q (up text m)).Pairwise (· < ·) := by
  unfold endsP up
  rw [List.pairwise_map]
  refine List.Pairwise.imp (R := (· < ·)) (fun {a b} h => by omega) ?_
  exact List.Pairwise.filter _ (List.Pairwise.filter _ List.pairwise_lt_range)
theorem ends_star (text q : List Nat) (m : Nat) : endsStep text (endsP text q (up text m)) none = match findM text q m text.length with | some k => up text (k + q.length) | none => [] := by
  cases hf : findM text q m text.length with
  | none =>
    have : endsP text q (up text m) = [] := by
      refine List.eq_nil_iff_forall_not_mem.mpr fun e he => ?_
      obtain ⟨d, _, h1, h2⟩ := ends_mem.mp he
      rw [findM_none hf d h1] at h2; cases h2
    rw [this]
    unfold endsStep
    simp
  | some k =>
    obtain ⟨k1, k2, k3, k4⟩ := findM_some hf
    have hmem : k + q.length ∈ endsP text q (up text m) := ends_mem.mpr ⟨k, rfl, k1, by unfold atB; simp [k2, k3]⟩
    have hs := ends_sorted text q m
    cases hE : endsP text q (up text m) with
    | nil => rw [hE] at hmem; cases hmem
    | cons a l =>
      rw [hE] at hs hmem
      have ha : a = k + q.length := by
        obtain ⟨d, hd, h1, h2⟩ := ends_mem.mp (show a ∈ endsP text q (up text m) by rw [hE]; exact .head _)
        have : k ≤ d := by
          rcases Nat.lt_or_ge d k with h | h
          · rw [k4 d h1 h] at h2; cases h2
          · exact h
        rcases List.mem_cons.mp hmem with h | h
        · exact h.symm
        · have := (List.pairwise_cons.mp hs).1 _ h; omega
      subst ha
      unfold endsStep up
      simp
theorem ends_none (text : List Nat) : ∀ ps : List (Option (List Nat)), ps.foldl (endsStep text) [] = []
  | [] => rfl
  | none :: ps => by
    rw [List.foldl_cons]
    have : endsStep text [] none = [] := by unfold endsStep; simp
    rw [this]; exact ends_none text ps
  | some x :: ps => by
    rw [List.foldl_cons]
    have : endsStep text [] (some x) = [] := rfl
    rw [this]; exact ends_none text ps
theorem up_le (text : List Nat) (m : Nat) : ∀ e ∈ up text m, e ≤ text.length := by
  intro e he
  unfold up at he
  rw [List.mem_filter, List.mem_range] at he
  omega
/-- the pieces behind the first stars -/
theorem ends_rest (text q : List Nat) : ∀ (pm : List (List Nat)) (m : Nat), ((partsP (pm ++ [q])).foldl (endsStep text) (up text m)).contains text.length = match saidLoop text text.length pm m with | some r => decide (r + q.length ≤ text.length) && (text.drop (text.length - q.length) == q) | none => false
  | [], m => by
    simp only [List.nil_append, partsP, saidLoop]
    rw [ends_chars text q _ (up_le text m)]
    rw [Bool.eq_iff_iff, List.contains_iff_mem, ends_mem]
    simp only [Bool.and_eq_true, decide_eq_true_eq, beq_iff_eq]
    constructor
    · rintro ⟨d, h1, h2, h3⟩
      unfold atB at h3
      simp only [Bool.and_eq_true, decide_eq_true_eq, beq_iff_eq] at h3
      refine ⟨by omega, ?_⟩
      rw [show text.length - q.length = d by omega]
      have h4 := h3.2
      rwa [List.take_of_length_le (by rw [List.length_drop]; omega)] at h4
    · rintro ⟨h1, h2⟩
      refine ⟨text.length - q.length, by omega, by omega, ?_⟩
      unfold atB
      simp only [Bool.and_eq_true, decide_eq_true_eq, beq_iff_eq]
      refine ⟨by omega, ?_⟩
      rw [h2]; simp
  | p :: pm, m => by
    have e : partsP (p :: pm ++ [q]) = (p.map fun c => some (escM c)) ++ none :: partsP (pm ++ [q]) := by
      cases pm <;> rfl
    rw [e, List.foldl_append, ends_chars text p _ (up_le text m), List.foldl_cons, ends_star]
    simp only [saidLoop]
    cases hf : findM text p m text.length with
    | none => dsimp only; rw [ends_none]; rfl
    | some k => dsimp only; exact ends_rest text q pm _
theorem fits_said (text p q : List Nat) (pm : List (List Nat)) : fitsM text (partsP (p :: (pm ++ [q]))) = saidM text (p :: (pm ++ [q])) := by
  rw [saidM_two]
  have e : partsP (p :: (pm ++ [q])) = (p.map fun c => some (escM c)) ++ none :: partsP (pm ++ [q]) := by
    cases pm <;> rfl
  unfold fitsM endsM
  rw [e, List.foldl_append, ends_chars text p [0] (by simp), List.foldl_cons]
  by_cases hp : text.take p.length = p
  · have hpl : p.length ≤ text.length := by
      have := congrArg List.length hp
      rw [List.length_take] at this; omega
    have e1 : endsP text p [0] = [p.length] := by
      unfold endsP
      simp [hpl, hp]
    have e2 : endsStep text [p.length] none = up text p.length := by
      unfold endsStep up
      simp
    rw [e1, e2, ends_rest]
    by_cases hlen : text.length < p.length + q.length
    · rw [if_pos (.inr (.inl hlen))]
      cases hs : saidLoop text text.length pm p.length with
      | none => rfl
      | some r =>
        have := saidLoop_ge _ _ _ _ _ hs
        have h0 : ¬ r + q.length ≤ text.length := by omega
        simp [h0]
    · by_cases hd : text.drop (text.length - q.length) = q
      · rw [if_neg (by simp [hp, hd]; omega), saidLoop_bound text (text.length - q.length) (by omega) pm p.length (by omega)]
        cases hs : saidLoop text text.length pm p.length with
        | none => rfl
        | some r =>
          dsimp only
          by_cases hr : r ≤ text.length - q.length
          · have h0 : r + q.length ≤ text.length := by omega
            rw [if_pos hr]; simp [h0, hd]
          · have h0 : ¬ r + q.length ≤ text.length := by omega
            rw [if_neg hr]; simp [h0]
      · rw [if_pos (.inr (.inr hd))]
        cases hs : saidLoop text text.length pm p.length with
        | none => rfl
        | some r => simp [hd]
  · rw [if_pos (.inl hp)]
    have e1 : endsP text p [0] = [] := by
      unfold endsP
      have : ¬ (p.length ≤ text.length ∧ text.take p.length = p) := fun h => hp h.2
      simp [hp]
    have e2 : endsStep text [] none = [] := by unfold endsStep; simp
    rw [e1, e2, ends_none]; rfl
theorem fits_one (text p : List Nat) : fitsM text (partsP [p]) = saidM text [p] := by
  unfold fitsM endsM saidM
  simp only [partsP]
  rw [ends_chars text p [0] (by simp)]
  unfold endsP
  simp only [List.length_cons, List.length_nil, if_true, List.headD_cons]
  rw [Bool.eq_iff_iff, List.contains_iff_mem, beq_iff_eq, List.mem_map]
  constructor
  · rintro ⟨d, hd, h2⟩
    rw [List.mem_filter, List.mem_singleton] at hd
    obtain ⟨rfl, h3⟩ := hd
    simp only [Bool.and_eq_true, decide_eq_true_eq, beq_iff_eq, List.drop_zero] at h3
    have h4 := h3.2
    rw [List.take_of_length_le (by omega)] at h4
    exact h4
  · rintro rfl
    exact ⟨0, by simp, by simp⟩
theorem fits_all (text : List Nat) (ps : List (List Nat)) (h : ps ≠ []) : fitsM text (partsP ps) = saidM text ps := by
  cases ps with
  | nil => exact absurd rfl h
  | cons p r =>
    rcases List.eq_nil_or_concat r with rfl | ⟨pm, q, rfl⟩
    · exact fits_one text p
    · rw [List.concat_eq_append]; exact fits_said text p q pm
end Mine
end
section
open PySem PySem.W PySem.Calls PySem.Spec PyProof PyProof.Rows PyProof.Rows.LCg
set_option Elab.async false
set_option maxRecDepth 100000
namespace Mine
section
variable {prog : Program} {w : World} {A : Around} {E : Value → Shared → Prop} {s : Shared} {env : Env} {h₀ : Heap} {L : Addr} {m : Str → Option Value}
/-- a comprehension over bytes -/
def CompSrcB (prog : Program) (w : World) (A : Around) (h₀ : Heap) (L : Addr) (m : Str → Option Value) (env : Env) (elt : Expr) (x : Str) (scope : Scope) (cl : List (Str × Addr)) (Fin : Shared → List Value → List (Addr × Obj) → Prop) (xv : Value) (s₁ : Shared) : Prop :=
  ∃ b t news, xv = .bytes b t ∧ A.handled = none ∧ Fr h₀ L s₁.heap m ∧ News h₀ L s₁.heap news ∧ b.size ≤ sizeLine ∧
    ∀ s₂ : Shared, (∃ h, s₂ = { s₁ with heap := h }) → CompRest prog w A h₀ L m env elt x scope cl s₂ (fun _ => True) (fun i v => ∃ c u, b[i]? = some c ∧ v = .int (c.toNat : Int) u) (Fin s₂) b.size 0 [] news
theorem bytes_st {I : Addr} {b : Array UInt8} {t : Tok} : ∀ i (h h' : Heap) (o : Obj) (nw : List (Addr × Obj)), KBw.IsBytesIter h I b t i → h.get? I = some o → h'.get? I = some o → (∀ b o, h₀.get? b = some o → h'.get? b = some o) → News h₀ L h' nw → True → KBw.IsBytesIter h' I b t i :=
  fun i h h' o nw st e e' _ _ _ => by obtain ⟨o', q, r⟩ := st; rw [e] at q; cases q; exact ⟨o, e', r⟩
theorem ListComp_B {elt iter : Expr} {x : Str} {px : Pos} {scope : Scope} {cl : List (Str × Addr)} {pos : Pos} {Q : Value → Shared → Prop} (F₀ : Fr h₀ L s.heap m)
    (hclos : closureFor scope env = pure cl) (hcell : ∀ y ∈ scope.names, y.2 ≠ .cell) (hkind : scope.kind = .function)
    (hnames : ∀ y ∈ scope.names, y.2 = .local → scope.names.lookup y.1 = some .local) (hx : scope.names.lookup x = some .local)
    (h : wpAny (model prog w) A (eval iter env) (CompSrcB prog w A h₀ L m env elt x scope cl (fun s₂ => FinE h₀ L m s₂ Q)) E s)
    (hs : ∀ x, foldedSetIterable iter env x = pure x := by intro _; rfl) :
    wpAny (model prog w) A (eval (.ListComp elt [⟨.Name x px, iter, [], 0⟩] scope pos) env) Q E s := by
  rw [eval_ListComp]
  refine wpAny_comprehension_free (use := none) rfl hs hclos hkind hnames (wpAny_mono h (fun xv s₁ h₁ => ?_) fun _ _ e => e)
  obtain ⟨b, t, news, rfl, hh, F, N, hsz, R⟩ := h₁
  refine KBw.pyIter_bytes ?_
  refine block_U (KBw.walks hh s₁.heap.objs.size b t) hsz (fun i h st => by obtain ⟨o, e, _⟩ := st; exact ⟨o, e⟩) bytes_st hcell hkind hx ⟨_, Heap.get?_push_size _ rfl, rfl, rfl⟩ (fun b hb => ?_)
    (F.push _) (fun p hp => ⟨Heap.get?_push_of_some _ (N p hp).1, (N p hp).2⟩) (Nat.ne_of_lt F.ns.lt) (next_is_new F) (fun p hp => Nat.ne_of_lt (Heap.lt_size (N p hp).1)) trivial (R _ ⟨_, rfl⟩) ?_
  · rw [List.mem_singleton.mp hb]
    show s₁.heap.objs.size < (s₁.heap.push _).objs.size
    rw [Heap.size_push]; exact Nat.lt_succ_self _
  · intro D C h tk m' ys news' F' N' o1 hn hC₀ hD₀ hCL hDL hCD offC fin
    refine ⟨m', hn, fun h'' hs'' => fin D h'' tk (F'.change hs'' hCL hC₀) (fun p hp => ?_) o1⟩
    refine ⟨hs''.extBut _ _ ?_ (N' p hp).1, (N' p hp).2⟩
    rcases List.mem_cons.mp hp with rfl | hp
    · exact Ne.symm hCD
    · exact offC p hp
theorem compB_U {elt : Expr} {x : Str} {scope : Scope} {cl : List (Str × Addr)} {Fin : Shared → List Value → List (Addr × Obj) → Prop} {b : Array UInt8} {tb : Tok} {ns : List Int} {news : List (Addr × Obj)} (G : Nat → List Value → Prop)
    (hk : KBw.bInts b = ns) (hh : A.handled = none) (F : Fr h₀ L s.heap m) (N : News h₀ L s.heap news) (hsz : ns.length ≤ sizeLine) (g0 : G 0 [])
    (step : ∀ i ys c t I oI C oC D m₂ h tk (E' : Value → Shared → Prop), G i ys → ns[i]? = some c → NsObj oC m₂ → m₂ x = some (.int c t) → Fr h₀ L h m → News h₀ L h ((I, oI) :: (C, oC) :: (D, lst ys) :: news) → Off3 I C D news → (I ≠ C ∧ I ≠ D ∧ C ≠ D) →
        wpAny (model prog w) A (eval elt (compEnvC scope cl C env)) (fun y s₂ => Stop (CEnd h₀ L m { s with heap := h, toks := tk } ((I, oI) :: (C, oC) :: (D, lst ys) :: news) (G (i + 1) (ys ++ [y])) s₂)) E' { s with heap := h, toks := tk })
    (fin : ∀ g ys, G ns.length ys → Fin { s with heap := g } ys news) : CompSrcB prog w A h₀ L m env elt x scope cl Fin (.bytes b tb) s := by
  subst hk
  refine ⟨b, tb, news, rfl, hh, F, N, by rw [KBw.ints_length] at hsz; exact hsz, ?_⟩
  rintro s₂ ⟨g, rfl⟩
  refine restU (s := { s with heap := g }) (n := b.size) (S := fun _ => True) (P := fun i v => ∃ c u, b[i]? = some c ∧ v = .int (c.toNat : Int) u) G trivial (fun i ys v I oI C oC D m₂ h tk E' hi hg hv hC hx => ?_) (by rw [KBw.ints_length] at fin; exact fin g) b.size 0 [] (Nat.zero_add _) g0
  obtain ⟨c, u, hc, rfl⟩ := hv
  exact step i ys _ u I oI C oC D m₂ h tk E' hg (KBw.ints_get hc) hC hx
end
end Mine
end
section
open PySem PySem.W PySem.Calls PySem.Spec PyProof PyProof.Rows
set_option Elab.async false
namespace Mine
section
variable {prog : Program} {w : World} {A : Around} {E : Value → Shared → Prop} {s : Shared} {Q : Value → Shared → Prop} {a b : Value} {d : PyData} {as bs : List Addr}
theorem ne_same (ra : Reads s.heap a d as) (rb : Reads s.heap b d bs) (sh : SeqAt.shaped d = true) (hu : A.units + 64 < cLine) (h : Q (.bool false) s) : wpAny (model prog w) A (compareOp .NotEq a b) Q E s :=
  ne_dataH ra rb sh sh hu (by rw [SeqAt.eqv_refl d (SeqAt.canLay_of_shaped sh)]; exact h)
theorem eq_same (ra : Reads s.heap a d as) (rb : Reads s.heap b d bs) (sh : SeqAt.shaped d = true) (hu : A.units + 64 < cLine) (h : Q (.bool true) s) : wpAny (model prog w) A (compareOp .Eq a b) Q E s :=
  eq_dataH ra rb sh sh hu (by rw [SeqAt.eqv_refl d (SeqAt.canLay_of_shaped sh)]; exact h)
end
def tupD (b : Nat × Nat × Nat) : PyData := .tuple [.int b.1, .int b.2.1, .int b.2.2]
theorem reads_tups {h : Heap} : ∀ {vs : List Value} {bl : List (Nat × Nat × Nat)}, TupsAt h vs bl → ∃ as, ReadsAll h vs (bl.map tupD) as
  | [], [], _ => ⟨_, .nil⟩
  | _ :: _, _ :: _, ⟨⟨a, x, y, z, e1, e2⟩, T⟩ => by
    obtain ⟨as, r⟩ := reads_tups T
    rw [e1]
    exact ⟨_, .cons (.tuple e2 rfl rfl (.cons (.int _ _) (.cons (.int _ _) (.cons (.int _ _) .nil)))) r⟩
  | [], _ :: _, T => T.elim
  | _ :: _, [], T => T.elim
theorem lay_tups : ∀ bl : List (Nat × Nat × Nat), PyData.canLayAll0 (bl.map tupD) = true ∧ PyData.depthAll (bl.map tupD) ≤ 1
  | [] => by simp [PyData.canLayAll0, PyData.depthAll]
  | b :: bl => by
    obtain ⟨h1, h2⟩ := lay_tups bl
    simp only [List.map_cons, tupD, PyData.canLayAll0, PyData.canLay0, PyData.depthAll, PyData.depth, Bool.and_true, Bool.true_and] at h1 h2 ⊢
    exact ⟨h1, by omega⟩
theorem shaped_tups (bl : List (Nat × Nat × Nat)) : SeqAt.shaped (.list (bl.map tupD)) = true := by
  obtain ⟨h1, h2⟩ := lay_tups bl
  simp only [SeqAt.shaped, PyData.canLay0, PyData.depth, h1, Bool.true_and]
  exact decide_eq_true (by omega)
def strD (x : List Nat) : PyData := .str ⟨x.toArray⟩
theorem reads_strs {h : Heap} : ∀ {vs : List Value} {xs : List (List Nat)}, StrsOf vs xs → ∃ as, ReadsAll h vs (xs.map strD) as
  | [], [], _ => ⟨_, .nil⟩
  | _ :: _, _ :: _, ⟨⟨t, e⟩, T⟩ => by
    obtain ⟨as, r⟩ := reads_strs T
    rw [e]
    exact ⟨_, .cons (.str _ _) r⟩
  | [], _ :: _, T => T.elim
  | _ :: _, [], T => T.elim
theorem lay_strs : ∀ xs : List (List Nat), (∀ x ∈ xs, ∀ z ∈ x, z < 0x110000) → PyData.canLayAll0 (xs.map strD) = true ∧ PyData.depthAll (xs.map strD) ≤ 1
  | [], _ => by simp [PyData.canLayAll0, PyData.depthAll]
  | x :: xs, h => by
    obtain ⟨h1, h2⟩ := lay_strs xs fun y hy => h y (.tail _ hy)
    have hx : PyData.strOk ⟨x.toArray⟩ = true := by
      simp only [PyData.strOk, List.all_toArray, List.all_eq_true, decide_eq_true_eq]
      exact h x (.head _)
    simp only [List.map_cons, strD, PyData.canLayAll0, PyData.canLay0, PyData.depthAll, PyData.depth, hx, Bool.true_and] at h1 h2 ⊢
    exact ⟨h1, by omega⟩
theorem shaped_strs {xs : List (List Nat)} (h : ∀ x ∈ xs, ∀ z ∈ x, z < 0x110000) : SeqAt.shaped (.list (xs.map strD)) = true := by
  obtain ⟨h1, h2⟩ := lay_strs xs h
  simp only [SeqAt.shaped, PyData.canLay0, PyData.depth, h1, Bool.true_and]
  exact decide_eq_true (by omega)
theorem reads_bools {h : Heap} : ∀ bs : List Bool, ∃ as, ReadsAll h (bs.map Value.bool) (bs.map PyData.bool) as
  | [] => ⟨_, .nil⟩
  | b :: bs => by
    obtain ⟨as, r⟩ := reads_bools (h := h) bs
    exact ⟨_, .cons (.bool _) r⟩
theorem shaped_bools : ∀ bs : List Bool, PyData.canLayAll0 (bs.map PyData.bool) = true ∧ PyData.depthAll (bs.map PyData.bool) ≤ 1
  | [] => by simp [PyData.canLayAll0, PyData.depthAll]
  | b :: bs => by
    obtain ⟨h1, h2⟩ := shaped_bools bs
    simp only [List.map_cons, PyData.canLayAll0, PyData.canLay0, PyData.depthAll, PyData.depth, Bool.true_and] at h1 h2 ⊢
    exact ⟨h1, by omega⟩
theorem shapedB (bs : List Bool) : SeqAt.shaped (.list (bs.map PyData.bool)) = true := by
  obtain ⟨h1, h2⟩ := shaped_bools bs
  simp only [SeqAt.shaped, PyData.canLay0, PyData.depth, h1, Bool.true_and]
  exact decide_eq_true (by omega)
end Mine
end
section
open PySem PySem.W PySem.Calls PySem.Spec PyProof PyProof.Rows PyProof.Rows.LCg
set_option Elab.async false
set_option maxRecDepth 100000
namespace Mine
/-- the end of a turn of a comprehension: the ledger may grow -/
def CEndW (h₀ : Heap) (L : Addr) (m : Str → Option Value) (s₁ : Shared) (I : Addr) (oI : Obj) (C : Addr) (oC : Obj) (D : Addr) (oD : Obj) (g : List (Addr × Obj) → Prop) (s₂ : Shared) : Prop :=
  ∃ h' tk nw, s₂ = { s₁ with heap := h', toks := tk } ∧ Fr h₀ L h' m ∧ News h₀ L h' ((I, oI) :: (C, oC) :: (D, oD) :: nw) ∧ Off3 I C D nw ∧ g nw
theorem CEndW.intro {h₀ h' : Heap} {L I C D : Addr} {m : Str → Option Value} {s₁ : Shared} {oI oC oD : Obj} {g : List (Addr × Obj) → Prop} {tk : Nat} {nw : List (Addr × Obj)} (F : Fr h₀ L h' m) (N : News h₀ L h' ((I, oI) :: (C, oC) :: (D, oD) :: nw)) (off : Off3 I C D nw) (hg : g nw) :
    CEndW h₀ L m s₁ I oI C oC D oD g { s₁ with heap := h', toks := tk } := ⟨h', tk, nw, rfl, F, N, off, hg⟩
section
variable {prog : Program} {w : World} {A : Around} {E : Value → Shared → Prop} {s : Shared} {h₀ : Heap} {L : Addr} {m : Str → Option Value} {env : Env}
theorem restW {elt : Expr} {x : Str} {scope : Scope} {cl : List (Str × Addr)} {S : List (Addr × Obj) → Prop} {P : Nat → Value → Prop} {Fin : List Value → List (Addr × Obj) → Prop} {n : Nat} (G : Nat → List Value → List (Addr × Obj) → Prop) (hS : ∀ i ys nw, G i ys nw → S nw)
    (step : ∀ i ys nw v I oI C oC D m₂ h tk (E' : Value → Shared → Prop), i < n → G i ys nw → P i v → NsObj oC m₂ → m₂ x = some v → Fr h₀ L h m → News h₀ L h ((I, oI) :: (C, oC) :: (D, lst ys) :: nw) → Off3 I C D nw → (I ≠ C ∧ I ≠ D ∧ C ≠ D) →
        wpAny (model prog w) A (eval elt (compEnvC scope cl C env)) (fun y s₂ => Stop (CEndW h₀ L m { s with heap := h, toks := tk } I oI C oC D (lst ys) (G (i + 1) (ys ++ [y])) s₂)) E' { s with heap := h, toks := tk })
    (fin : ∀ ys nw, G n ys nw → Fin ys nw) : ∀ k i ys nw, i + k = n → G i ys nw → CompRest prog w A h₀ L m env elt x scope cl s S P Fin k i ys nw
  | 0, i, ys, nw, e, g => CompRest.zero (fin ys nw (by rw [← e]; exact g))
  | k + 1, i, ys, nw, e, g => by
    refine CompRest.succ fun v I oI C oC D m₂ h tk E' hP hC hx F N off ne => ?_
    refine wpAny_mono (step i ys nw v I oI C oC D m₂ h tk E' (by omega) g hP hC hx F N off ne) (fun y s₂ q => ?_) fun _ _ e => e
    obtain ⟨h', tk', nw', rfl, F', N', off', g'⟩ := q.h
    exact CompEnd.intro F' N' nw' (fun p hp => hp) off' (hS _ _ _ g') (restW G hS step fin k (i + 1) _ _ (by omega) g')
/-- over a list, the ledger may grow -/
theorem compL_W {elt : Expr} {x : Str} {scope : Scope} {cl : List (Str × Addr)} {Fin : Shared → List Value → List (Addr × Obj) → Prop} {ax : Addr} {vs : List Value} {news : List (Addr × Obj)} (G : Nat → List Value → List (Addr × Obj) → Prop)
    (hh : A.handled = none) (F : Fr h₀ L s.heap m) (N : News h₀ L s.heap news) (hS : ∀ i ys nw, G i ys nw → SrcAt h₀ ax vs.toArray nw) (hsz : vs.length ≤ sizeLine) (g0 : G 0 [] news)
    (step : ∀ i ys nw v I oI C oC D m₂ h tk (E' : Value → Shared → Prop), G i ys nw → vs[i]? = some v → NsObj oC m₂ → m₂ x = some v → Fr h₀ L h m → News h₀ L h ((I, oI) :: (C, oC) :: (D, lst ys) :: nw) → Off3 I C D nw → (I ≠ C ∧ I ≠ D ∧ C ≠ D) →
        wpAny (model prog w) A (eval elt (compEnvC scope cl C env)) (fun y s₂ => Stop (CEndW h₀ L m { s with heap := h, toks := tk } I oI C oC D (lst ys) (G (i + 1) (ys ++ [y])) s₂)) E' { s with heap := h, toks := tk })
    (fin : ∀ g ys nw, G vs.length ys nw → Fin { s with heap := g } ys nw) : CompSrc prog w A h₀ L m env elt x scope cl Fin (.ref ax) s := by
  refine .inl ⟨ax, vs.toArray, news, rfl, hh, F, N, hS _ _ _ g0, by simpa using hsz, ?_⟩
  rintro s₂ ⟨g, rfl⟩
  have e : vs.toArray.size = vs.length := by simp
  rw [e]
  exact restW (s := { s with heap := g }) (n := vs.length) (S := SrcAt h₀ ax vs.toArray) (P := fun i v => vs.toArray[i]? = some v) G hS (fun i ys nw v I oI C oC D m₂ h tk E' hi hg hv => step i ys nw v I oI C oC D m₂ h tk E' hg (by simpa using hv)) (fin g) vs.length 0 [] _ (Nat.zero_add _) g0
end
end Mine
end
section
open PySem PySem.W PySem.Calls PySem.Spec PyProof PyProof.Rows
set_option Elab.async false
set_option maxRecDepth 100000
namespace Mine
set_option linter.unusedVariables false
local macro_rules | `(tactic| walk_at "pyIter ref") => `(tactic| (refine stop_of ?_))
local macro_rules | `(tactic| walk_at "call ref") => `(tactic| (refine stop_of ?_))
local macro_rules | `(tactic| k_steps) => `(tactic| repeat' (first | (k_unfold; (try dsimp only)) | walk1 | (dsimp only; walk1) | (leave1; (try dsimp only)) | fail "no step"))
local macro_rules | `(tactic| walk_at "exec While Compare cons nil") => `(tactic| ((fail_if_success (rename Go => hgo)); refine stop_of ?_))
set_option hygiene false in
local macro_rules | `(tactic| walk_at "FRAME") => `(tactic| (intro y; (try dsimp only); (repeat (refine fr_step (fun hy => (by first | exact absurd hy (by assumption) | (subst hy; first | rfl | kernel_rfl))) fun hy => ?_)); (repeat (first | refine fr_last (by assumption) ?_ | refine fr_rstep (fun hy => (by subst hy; first | rfl | kernel_rfl)) fun hy => ?_)); (try rfl)))
set_option hygiene false in
local macro_rules | `(tactic| walk_at "PUR") => `(tactic| (k_dflt (refine' pur_intro (by omega) ?k6 ?k7 ?k9 ?kB ?_ ?c2 ?c3 ?c4 ?c5; (case k6 => k_is); (case k7 => k_is); (case k9 => (intro _ Xb; first | exact BindsTo.of_eq rfl | exact binds_K (by k_in) rfl (by k_is) rfl rfl rfl)); (case c5 => decide); (case kB => exact locs rfl); (case c2 => exact rfl); (case c3 => exact rfl); (case c4 => exact rfl)); k_whole; intro dp un gd env outer base mean mg mb s E L' h₁ tk hd hu hP F1 N2 B X T; (try dsimp only); (try k_fold)))
set_option hygiene false in
local macro_rules | `(tactic| walk_at "ROOM") => `(tactic| (first | omega | (simp only [Around.deeper, topE]; omega)))
set_option hygiene false in
local macro_rules | `(tactic| walk_at "SITE") => `(tactic| (refine ⟨rfl, by assumption, _, _, _, _, _, _, _, rfl, rfl, rfl, B, X, T⟩))
local macro_rules | `(tactic| walk_at "binaryOp Add ref ref") => `(tactic| (refine stop_of ?_))
set_option hygiene false in
local macro_rules | `(tactic| walk_at "SUB") => `(tactic| (intro p hp; (try simp only [List.mem_cons, List.mem_append, List.not_mem_nil, or_false, false_or] at hp ⊢); (repeat' (refine Or.elim hp (fun hp => ?_) fun hp => ?_)); (all_goals (simp only [hp, true_or, or_true]))))
local macro_rules | `(tactic| walk_at "binaryOp Add str str") => `(tactic| ((refine PyProof.Rows.add_str (hsz := ?hsz) ?_); (case hsz => (first | (simp only [Str.length_append, sizeLine_eq]; omega) | size_fits)); intro _ _))
local macro_rules | `(tactic| k_all) => `(tactic| (refine allLt_ne (by assumption) ?_; omega))
local macro_rules | `(tactic| k_all) => `(tactic| with_reducible assumption)
set_option hygiene false in
local macro_rules | `(tactic| walk_at "PURC") => `(tactic| (k_dflt (refine' pur_introC (by omega) ?k6 ?k7 ?k9 ?kB ?kD ?_ ?c2 ?c3 ?c4; (case k6 => k_is); (case k7 => k_is); (case k9 => (intro _ Xb; first | exact BindsTo.of_eq rfl | exact binds_K (by k_in) rfl (by k_is) rfl rfl rfl)); (case kB => exact rfl); (case kD => decide +kernel); (case c2 => exact rfl); (case c3 => exact rfl); (case c4 => exact rfl)); k_whole; intro dp un gd env outer base mean mg mb s E L' h₁ tk cells hd hu hP F1 N2 Y2 B X T; k_cells Y2; (try simp only [List.cons_append, List.nil_append] at N2); (try dsimp only); (try k_fold)))
local macro_rules | `(tactic| walk_at "compareOp Is str ref") => `(tactic| (refine wpAny_is_other (by rfl) (by intro x; cases x) ?_))
local macro_rules | `(tactic| walk_at "exec For Name Name cons nil") => `(tactic| (refine stop_of ?_))
set_option hygiene false in
local macro_rules | `(tactic| walk_at "OWN") => `(tactic| (k_dflt (refine' own_intro (by omega) ?k6 ?k7 ?k9 ?kB ?_ ?c2 ?c3 ?c4 ?c5; (case k6 => k_is); (case k7 => k_is); (case k9 => (intro _ Xb; first | exact BindsTo.of_eq rfl | exact binds_K (by k_in) rfl (by k_is) rfl rfl rfl)); (case c5 => decide); (case kB => exact locs rfl); (case c2 => exact rfl); (case c3 => exact rfl); (case c4 => exact rfl)); k_whole; intro dp un gd env outer base mean mg mb s E L' h₁ tk hd hu hP F1 N2 B X T; (try dsimp only); (try k_fold)))
set_option hygiene false in
local macro_rules | `(tactic| walk_at "CLS") => `(tactic| (k_dflt (refine' cls_intro (by omega) ?kh ?ki ?kj ?km ?k6 ?k7 ?k9 ?kB ?_ ?c2 ?c3 ?c4 ?c5; (case km => walk_at "MONO"); (case kh => k_is); (case ki => k_is); (case kj => k_is); (case k6 => k_is); (case k7 => k_is); (case k9 => (intro _ _ Xb; first | exact BindsTo.of_eq rfl | exact binds_K (by k_in) rfl (by k_is) rfl rfl rfl)); (case c5 => decide); (case kB => (intro _; exact locs rfl)); (case c2 => exact rfl); (case c3 => exact rfl); (case c4 => exact rfl)); k_whole; intro dp un gd env outer base mean mg mb s E L' h₁ tk xI dI hd hu lI F1 N2 B X T; (try dsimp only); (try k_fold)))
set_option hygiene false in
local macro_rules | `(tactic| walk_at "ENTER") => `(tactic| (refine' code_def ?k1 ?k2 ?k3 ?k4 ?k5 ?kA ?kF ?kK ?k6 ?k7 ?k8 ?k9 ?kB ?_ ?c2 ?c3 ?c4 ?c5; (case kA => exact rfl); (case kF => exact rfl); (case kK => exact rfl); (case k1 => k_asm); (case k2 => k_asm); (case k3 => k_asm); (case k4 => k_asm); (case k5 => k_asm); (case k6 => k_is); (case k7 => k_is); (case k8 => (simp only [depth_under_make, depth_under_kw, depth_in1, depth_deeper, depth_caller, topE]; omega)); (case k9 => first | exact BindsTo.of_eq rfl | exact binds_K (by k_in) rfl (by k_is) rfl rfl rfl | fail "k_enter: no rule for these arguments"); (case c5 => decide); (case kB => exact locs rfl); (case c2 => exact rfl); (case c3 => exact rfl); (case c4 => exact rfl); k_whole; intro g' L2' h' FG' F' N' B' X' T'; (try dsimp only); (try k_lift B'); (try k_fold)))
section
variable {prog : Program} {w : World} {A : Around} {E : Value → Shared → Prop} {s : Shared} {K : Frag} {x C : Addr} {ox : Obj} {od : Option Obj} {name : Str} {expr : Bool} {Q : Value → Shared → Prop}
theorem entry_tga : entryFor table "tuple.__getattribute__" = some Builtin.«object.__getattribute__» :=
  entryFor_alias (id' := "object.__getattribute__") (by kernel_rfl) (by decide +kernel) (by decide +kernel) (by kernel_rfl)
theorem get_bindT {g a : Value} (X : K.In s.heap) (I : InstAt s.heap x ox C od) (hga : findIn K (.ref C) "__getattribute__" = some (some (.builtin "tuple.__getattribute__")))
    (hi : Looks (model prog w) s.heap (isSubtype (.ref C) (.type "tuple")) true) (hf : findObj K C od name = some (.bind g a)) (hk : findIn K (.ref C) "__getattr__" = some none)
    (h : wpAny (model prog w) A.in1 (call g [a, .ref x, .ref C]) (fun v s' => wpAny (model prog w) A (handedOut v) Q E s') (fun _ _ => False) { s with toks := s.toks + 1 }) :
    wpAny (model prog w) A (getAttr (.ref x) name expr) Q E s := by
  obtain ⟨hh, gg, d, t, os⟩ := s
  have L0 := I.type (M := model prog w)
  have L1 := looks_findIn (M := model prog w) X hga
  have L2 := looks_findIn (M := model prog w) X hk
  have L3 := looks_find (M := model prog w) X I hf
  unfold getAttr getAttrBy
  refine wpAny_bind (wpAny_mkText (wpAny_holding (wpAny_bind (L0.at (wpAny_bind (L1.at ?_))))))
  dsimp only
  rw [show (onTheHeap (.ref C) && Value.builtin "tuple.__getattribute__" == Value.builtin "object.__getattribute__") = false from by rw [show (Value.builtin "tuple.__getattribute__" == Value.builtin "object.__getattribute__") = false from by decide +kernel, Bool.and_false], if_neg (by decide)]
  unfold getAttrByItsOwn
  refine wpAny_bind ((show Looks (model prog w) hh (hookBefore (.ref C)) none from L2).at (wpAny_bind (wpAny_attempt (wpAny_holding ?_))))
  unfold callGetattribute
  rw [show (expr && onTheHeap (Value.builtin "tuple.__getattribute__")) = false from Bool.and_false _, if_neg (by decide)]
  unfold boundAndCalled
  rw [PySem.F.slot_tuple_getattribute.bind]
  refine wpAny_bind (wpAny_pure ?_)
  show wpAny _ _ (call (.builtin "tuple.__getattribute__") [.ref x, .str name t]) _ _ _
  refine call_sub (s := ⟨hh, gg, d, t + 1, os⟩) (n := "__getattribute__") (by decide +kernel) (by decide +kernel) (by decide +kernel) entry_tga (L0.andThen hi) (PySem.F.args_tuple_getattribute_2 _ _) ?_
  unfold Builtin.«object.__getattribute__»
  refine wpAny_bind (wpAny_of_eq (a := (.ref x, [.str name t])) rfl ?_)
  refine wpAny_bind (wpAny_of_eq (a := name) rfl ?_)
  refine wpAny_bind (L0.at (wpAny_bind (L3.at ?_)))
  show wpAny _ _ (holding [a] (call g [a, .ref x, .ref C]) >>= ret) _ _ _
  refine wpAny_bind (wpAny_holding (wpAny_mono h (fun v s' z => wpAny_pure ⟨v, rfl, z⟩) fun _ _ z => False.elim z))
end
theorem get_a (w : World) : PySem.Challenge.rw_ik0097_01 = PySem.Challenge.rw_ik0097_01 → Kx = Kx → ∀ {A : Around} {E : Value → Shared → Prop} {s : Shared} {h₀ : Heap} {L : Addr} {m : Str → Option Value} {r : Addr} {a b c : Value} {dx : Addr} {expr : Bool} {Q : Value → Shared → Prop}
    (S : Site w A h₀ L s.heap m) (hd : A.depth + 4 < recursionLimit) (hu : A.units + 71 < cLine) (X : (Kx w.params).In s.heap) (hr : s.heap.get? r = some (matchObj a b c dx)) (hdx : s.heap.get? dx = some emptyD) (ha : handedIn a = true)
    (h : ∀ h' tk, s.heap.StaysIn h' → Fr h₀ L h' m → Q a { s with heap := h', toks := tk }), wpAny (model pw w) A (getAttr (.ref r) "a" expr) Q E s := by
  k_fill
  intro _ _ A E s h₀ L m r a b c dx expr Q S hd hu X hr hdx ha h
  have e1 : findIn (Kx w.params) (.ref 206) "__getattribute__" = some (some (.builtin "tuple.__getattribute__")) := by k_dflt k_is
  have e2 : findIn (Kx w.params) (.ref 206) "__getattr__" = some none := by k_dflt k_is
  have e3 : findIn (Kx w.params) (.ref 206) "a" = some (some (.ref 195)) := by k_dflt k_is
  have e4 : specialIn (Kx w.params) (.ref 195) "__get__" = some (some (.ref 114)) := by k_dflt k_is
  have e5 : takesIn (Kx w.params) (.ref 195) = some true := by k_dflt k_is
  have hY := (mcls_of w rfl rfl _ X).sub
  have e6 : isClsIn (Kx w.params) 206 = true := by k_dflt k_is
  refine get_bindT (ox := matchObj a b c dx) (od := some emptyD) X ⟨hr, rfl, rfl, hdx⟩ e1 hY (findObj_data e6 e3 e4 e5) e2 ?_
  refine pur_use (t_get0 w rfl rfl r a b c) (⟨S.hh, S.fr, S.at'⟩ : Site w A.in1 h₀ L s.heap m) hd (by show A.units + 1 + 70 < cLine; omega) ⟨_, hr, rfl, _, rfl⟩ ?_
  rintro _ h' tk' hs F rfl
  exact handed_on ha (h h' tk' hs F)
theorem get_b (w : World) : PySem.Challenge.rw_ik0097_01 = PySem.Challenge.rw_ik0097_01 → Kx = Kx → ∀ {A : Around} {E : Value → Shared → Prop} {s : Shared} {h₀ : Heap} {L : Addr} {m : Str → Option Value} {r : Addr} {a b c : Value} {dx : Addr} {expr : Bool} {Q : Value → Shared → Prop}
    (S : Site w A h₀ L s.heap m) (hd : A.depth + 4 < recursionLimit) (hu : A.units + 71 < cLine) (X : (Kx w.params).In s.heap) (hr : s.heap.get? r = some (matchObj a b c dx)) (hdx : s.heap.get? dx = some emptyD) (ha : handedIn b = true)
    (h : ∀ h' tk, s.heap.StaysIn h' → Fr h₀ L h' m → Q b { s with heap := h', toks := tk }), wpAny (model pw w) A (getAttr (.ref r) "b" expr) Q E s := by
  k_fill
  intro _ _ A E s h₀ L m r a b c dx expr Q S hd hu X hr hdx ha h
  have e1 : findIn (Kx w.params) (.ref 206) "__getattribute__" = some (some (.builtin "tuple.__getattribute__")) := by k_dflt k_is
  have e2 : findIn (Kx w.params) (.ref 206) "__getattr__" = some none := by k_dflt k_is
  have e3 : findIn (Kx w.params) (.ref 206) "b" = some (some (.ref 198)) := by k_dflt k_is
  have e4 : specialIn (Kx w.params) (.ref 198) "__get__" = some (some (.ref 114)) := by k_dflt k_is
  have e5 : takesIn (Kx w.params) (.ref 198) = some true := by k_dflt k_is
  have hY := (mcls_of w rfl rfl _ X).sub
  have e6 : isClsIn (Kx w.params) 206 = true := by k_dflt k_is
  refine get_bindT (ox := matchObj a b c dx) (od := some emptyD) X ⟨hr, rfl, rfl, hdx⟩ e1 hY (findObj_data e6 e3 e4 e5) e2 ?_
  refine pur_use (t_get1 w rfl rfl r a b c) (⟨S.hh, S.fr, S.at'⟩ : Site w A.in1 h₀ L s.heap m) hd (by show A.units + 1 + 70 < cLine; omega) ⟨_, hr, rfl, _, rfl⟩ ?_
  rintro _ h' tk' hs F rfl
  exact handed_on ha (h h' tk' hs F)
theorem get_size (w : World) : PySem.Challenge.rw_ik0097_01 = PySem.Challenge.rw_ik0097_01 → Kx = Kx → ∀ {A : Around} {E : Value → Shared → Prop} {s : Shared} {h₀ : Heap} {L : Addr} {m : Str → Option Value} {r : Addr} {a b c : Value} {dx : Addr} {expr : Bool} {Q : Value → Shared → Prop}
    (S : Site w A h₀ L s.heap m) (hd : A.depth + 4 < recursionLimit) (hu : A.units + 71 < cLine) (X : (Kx w.params).In s.heap) (hr : s.heap.get? r = some (matchObj a b c dx)) (hdx : s.heap.get? dx = some emptyD) (ha : handedIn c = true)
    (h : ∀ h' tk, s.heap.StaysIn h' → Fr h₀ L h' m → Q c { s with heap := h', toks := tk }), wpAny (model pw w) A (getAttr (.ref r) "size" expr) Q E s := by
  k_fill
  intro _ _ A E s h₀ L m r a b c dx expr Q S hd hu X hr hdx ha h
  have e1 : findIn (Kx w.params) (.ref 206) "__getattribute__" = some (some (.builtin "tuple.__getattribute__")) := by k_dflt k_is
  have e2 : findIn (Kx w.params) (.ref 206) "__getattr__" = some none := by k_dflt k_is
  have e3 : findIn (Kx w.params) (.ref 206) "size" = some (some (.ref 201)) := by k_dflt k_is
  have e4 : specialIn (Kx w.params) (.ref 201) "__get__" = some (some (.ref 114)) := by k_dflt k_is
  have e5 : takesIn (Kx w.params) (.ref 201) = some true := by k_dflt k_is
  have hY := (mcls_of w rfl rfl _ X).sub
  have e6 : isClsIn (Kx w.params) 206 = true := by k_dflt k_is
  refine get_bindT (ox := matchObj a b c dx) (od := some emptyD) X ⟨hr, rfl, rfl, hdx⟩ e1 hY (findObj_data e6 e3 e4 e5) e2 ?_
  refine pur_use (t_get2 w rfl rfl r a b c) (⟨S.hh, S.fr, S.at'⟩ : Site w A.in1 h₀ L s.heap m) hd (by show A.units + 1 + 70 < cLine; omega) ⟨_, hr, rfl, _, rfl⟩ ?_
  rintro _ h' tk' hs F rfl
  exact handed_on ha (h h' tk' hs F)
end Mine
end
section
set_option Elab.async false
open PySem
namespace Mine
structure JI (f g : List Nat) (k : Nat) (st : JSt) : Prop where
  chars : ∀ p ∈ st.1 ++ [st.2.1], ∀ c ∈ p, c ∈ f
  len : ((st.1 ++ [st.2.1]).map List.length).sum ≤ st.2.2.2.1
  n : st.1.length ≤ k
  both : st.2.2.1.length ≤ st.2.2.2.1 + st.2.2.2.2
  mid : midOk (st.1 ++ [st.2.1])
theorem midOk_swap : ∀ {xs : List (List Nat)} {x y : List Nat}, midOk (xs ++ [x]) → midOk (xs ++ [y])
  | [], _, _, _ => trivial
  | [_], _, _, _ => ⟨fun h => absurd rfl h, trivial⟩
  | a :: b :: xs, x, y, h => by
    have h' : (xs ++ [x] ≠ [] → b ≠ []) ∧ midOk (b :: (xs ++ [x])) := h
    show (xs ++ [y] ≠ [] → b ≠ []) ∧ midOk (b :: (xs ++ [y]))
    exact ⟨fun _ => h'.1 (by simp), midOk_swap (xs := b :: xs) h'.2⟩
theorem midOk_snoc : ∀ {xs : List (List Nat)} {x y : List Nat}, midOk (xs ++ [x]) → (xs ≠ [] → x ≠ []) → midOk (xs ++ [x] ++ [y])
  | [], _, _, _, _ => ⟨fun h => absurd rfl h, trivial⟩
  | [a], x, y, _, h => by
    show ([y] ≠ [] → x ≠ []) ∧ midOk [x, y]
    exact ⟨fun _ => h (by simp), fun h => absurd rfl h, trivial⟩
  | a :: b :: xs, x, y, h, hn => by
    have h' : (xs ++ [x] ≠ [] → b ≠ []) ∧ midOk (b :: (xs ++ [x])) := h
    show (xs ++ [x] ++ [y] ≠ [] → b ≠ []) ∧ midOk (b :: (xs ++ [x] ++ [y]))
    exact ⟨fun _ => h'.1 (by simp), midOk_snoc (xs := b :: xs) h'.2 fun _ => hn (by simp)⟩
theorem ji_step {f g : List Nat} {k : Nat} {st : JSt} {b : Nat × Nat × Nat} (hf : f.length = 8) (hg : g.length = 8) (h : JI f g k st) (hne : st.1 ≠ [] → st.2.1 ≠ []) (h1 : st.2.2.2.1 ≤ b.1) (h2 : st.2.2.2.2 ≤ b.2.1) (h3 : b.1 + b.2.2 ≤ 8) (h4 : b.2.1 + b.2.2 ≤ 8) :
    JI f g (k + 1) (joinStep f g st b) ∧ (0 < b.2.2 → (joinStep f g st b).1 ≠ [] → (joinStep f g st b).2.1 ≠ []) := by
  obtain ⟨P, l, bo, i, j⟩ := st
  obtain ⟨b1, b2, b3⟩ := b
  obtain ⟨c, ln, n, bt, md⟩ := h
  dsimp only at c ln n bt md hne h1 h2 h3 h4
  have hs : ((f.drop b1).take b3).length = b3 := by rw [List.length_take, List.length_drop]; omega
  have hsf : ∀ z ∈ (f.drop b1).take b3, z ∈ f := fun z hz => List.mem_of_mem_drop (List.mem_of_mem_take hz)
  have hbo : (bo ++ (f.drop i).take (b1 - i) ++ (g.drop j).take (b2 - j) ++ (f.drop b1).take b3).length ≤ b1 + b3 + (b2 + b3) := by
    simp only [List.length_append, List.length_take, List.length_drop]; omega
  simp only [List.map_append, List.sum_append, List.map_cons, List.map_nil, List.sum_cons, List.sum_nil] at ln
  by_cases hq : b1 > i ∨ b2 > j
  · have e : joinStep f g (P, l, bo, i, j) (b1, b2, b3) = (P ++ [l], [] ++ (f.drop b1).take b3, bo ++ (f.drop i).take (b1 - i) ++ (g.drop j).take (b2 - j) ++ (f.drop b1).take b3, b1 + b3, b2 + b3) := by
      unfold joinStep; dsimp only; rw [if_pos hq]
    rw [e]
    refine ⟨⟨?_, ?_, ?_, hbo, ?_⟩, ?_⟩
    · intro p hp
      dsimp only at hp
      rcases List.mem_append.mp hp with hp | hp
      · exact c p hp
      · rw [List.mem_singleton.mp hp]; exact hsf
    · simp only [List.map_append, List.sum_append, List.map_cons, List.map_nil, List.sum_cons, List.sum_nil, List.nil_append, hs]; omega
    · simp only [List.length_append, List.length_singleton]; omega
    · exact midOk_snoc md hne
    · intro hb _ hx
      have hb' : 0 < b3 := hb
      dsimp only at hx
      have := congrArg List.length hx
      rw [List.nil_append, hs] at this
      simp at this; omega
  · have e : joinStep f g (P, l, bo, i, j) (b1, b2, b3) = (P, l ++ (f.drop b1).take b3, bo ++ (f.drop i).take (b1 - i) ++ (g.drop j).take (b2 - j) ++ (f.drop b1).take b3, b1 + b3, b2 + b3) := by
      unfold joinStep; dsimp only; rw [if_neg hq]
    rw [e]
    refine ⟨⟨?_, ?_, Nat.le_succ_of_le n, hbo, ?_⟩, ?_⟩
    · intro p hp
      dsimp only at hp
      rcases List.mem_append.mp hp with hp | hp
      · exact c p (List.mem_append_left _ hp)
      · rw [List.mem_singleton.mp hp]
        intro z hz
        rcases List.mem_append.mp hz with hz | hz
        · exact c l (List.mem_append_right _ (.head _)) z hz
        · exact hsf z hz
    · simp only [List.map_append, List.sum_append, List.map_cons, List.map_nil, List.sum_cons, List.sum_nil, List.length_append, hs]; omega
    · exact midOk_swap md
    · intro hb _ hx
      have hb' : 0 < b3 := hb
      dsimp only at hx
      have := congrArg List.length hx
      rw [List.length_append, hs] at this
      simp at this; omega
theorem ji_all {f g : List Nat} (hf : f.length = 8) (hg : g.length = 8) : ∀ (l : List (Nat × Nat × Nat)) (k : Nat) (st : JSt), JI f g k st → (st.1 ≠ [] → st.2.1 ≠ []) → okB st.2.2.2.1 st.2.2.2.2 (l ++ [(8, 8, 0)]) → (∀ b ∈ l, 0 < b.2.2) →
    JI f g (k + l.length + 1) ((l ++ [(8, 8, 0)]).foldl (joinStep f g) st) ∧ ((l ++ [(8, 8, 0)]).foldl (joinStep f g) st).2.2.2.1 = 8 ∧ ((l ++ [(8, 8, 0)]).foldl (joinStep f g) st).2.2.2.2 = 8
  | [], k, st, h, hne, ho, _ => by
    obtain ⟨h1, h2, _⟩ := ho
    exact ⟨(ji_step hf hg h hne h1 h2 (by decide) (by decide)).1, rfl, rfl⟩
  | b :: l, k, st, h, hne, ho, hp => by
    obtain ⟨h1, h2, h3⟩ := ho
    have h4 := okB_le h3
    obtain ⟨s1, s2⟩ := ji_step hf hg h hne h1 h2 h4.1 h4.2
    have := ji_all hf hg l (k + 1) (joinStep f g st b) s1 (s2 (hp b (.head _))) h3 fun c hc => hp c (.tail _ hc)
    rw [show k + 1 + l.length + 1 = k + (b :: l).length + 1 by simp; omega] at this
    exact this
/-- what the law's own joining makes -/
theorem joined {f g : List Nat} (hf : f.length = 8) (hg : g.length = 8) : ∃ ps bo, ps = (joinM f g (blocksM 9 f g 0 0 ++ [(8, 8, 0)])).1 ++ [(joinM f g (blocksM 9 f g 0 0 ++ [(8, 8, 0)])).2.1] ∧ bo = (joinM f g (blocksM 9 f g 0 0 ++ [(8, 8, 0)])).2.2.1 ∧
    (∀ p ∈ ps, ∀ c ∈ p, c ∈ f) ∧ (ps.map List.length).sum ≤ 8 ∧ ps.length ≤ 7 ∧ ps ≠ [] ∧ bo.length ≤ 16 ∧ midOk ps := by
  refine ⟨_, _, rfl, rfl, ?_⟩
  rw [← blk_is hf hg]
  obtain ⟨h1, h2⟩ := blk_ok (f := f) (g := g) 8 0 8 0 8 (by omega) (by omega) (by omega) (by omega) (by omega)
  have h5 := blk_count hf hg
  have ho : okB 0 0 (blk f g 0 8 0 8 ++ [(8, 8, 0)]) := okB_of h2 (fun b hb => by
    obtain ⟨m, _⟩ := h1 b hb
    have c1 := m.a1; have c3 := m.b1
    omega) (by omega) (by omega)
  obtain ⟨J, e1, e2⟩ := ji_all hf hg (blk f g 0 8 0 8) 0 ([], [], [], 0, 0) ⟨by simp, by simp, by simp, by simp, trivial⟩ (fun h => absurd rfl h) ho fun b hb => (h1 b hb).2
  have hn := J.n
  have hb := J.both
  have hl := J.len
  rw [e1] at hl hb
  rw [e2] at hb
  refine ⟨J.chars, hl, ?_, by simp, hb, J.mid⟩
  simp only [List.length_append, List.length_singleton]
  unfold joinM
  omega
theorem joinL_len (sep : List Nat) : ∀ xs : List (List Nat), (joinL sep xs).length ≤ (xs.map List.length).sum + xs.length * sep.length
  | [] => by simp [joinL]
  | [x] => by simp [joinL]
  | x :: y :: r => by
    have := joinL_len sep (y :: r)
    simp only [joinL, List.length_append, List.map_cons, List.sum_cons, List.length_cons] at this ⊢
    rw [Nat.add_mul (r.length + 1) 1]
    omega
theorem joinL_mem (sep : List Nat) : ∀ (xs : List (List Nat)) (c : Nat), c ∈ joinL sep xs → c ∈ sep ∨ ∃ p ∈ xs, c ∈ p
  | [], c, h => by simp [joinL] at h
  | [x], c, h => .inr ⟨x, .head _, h⟩
  | x :: y :: r, c, h => by
    simp only [joinL, List.mem_append] at h
    rcases h with (h | h) | h
    · exact .inr ⟨x, .head _, h⟩
    · exact .inl h
    · rcases joinL_mem sep (y :: r) c h with h | ⟨p, hp, h⟩
      · exact .inl h
      · exact .inr ⟨p, .tail _ hp, h⟩
theorem partsP_len : ∀ ps : List (List Nat), (partsP ps).length ≤ (ps.map List.length).sum + ps.length
  | [] => by simp [partsP]
  | [x] => by simp [partsP]
  | x :: y :: r => by
    have := partsP_len (y :: r)
    simp only [partsP, List.length_append, List.length_map, List.map_cons, List.sum_cons, List.length_cons] at this ⊢
    omega
theorem partsP_two : ∀ (ps : List (List Nat)) (p : List Nat), some p ∈ partsP ps → p.length ≤ 2
  | [], p, h => by simp [partsP] at h
  | [x], p, h => by
    simp only [partsP, List.mem_map] at h
    obtain ⟨c, _, h⟩ := h
    obtain rfl := Option.some.inj h
    unfold escM; split <;> simp
  | x :: y :: r, p, h => by
    simp only [partsP, List.mem_append, List.mem_map, List.mem_cons] at h
    rcases h with ⟨c, _, h⟩ | h | h
    · obtain rfl := Option.some.inj h
      unfold escM; split <;> simp
    · cases h
    · exact partsP_two (y :: r) p h
end Mine
end
section
open PySem PySem.W PySem.Calls PySem.Spec PyProof PyProof.Rows
set_option maxRecDepth 100000
namespace Mine
set_option linter.unusedVariables false
local macro_rules | `(tactic| walk_at "pyIter ref") => `(tactic| (refine stop_of ?_))
local macro_rules | `(tactic| walk_at "call ref") => `(tactic| (refine stop_of ?_))
local macro_rules | `(tactic| k_steps) => `(tactic| repeat' (first | (k_unfold; (try dsimp only)) | walk1 | (dsimp only; walk1) | (leave1; (try dsimp only)) | fail "no step"))
local macro_rules | `(tactic| walk_at "exec While Compare cons nil") => `(tactic| ((fail_if_success (rename Go => hgo)); refine stop_of ?_))
set_option hygiene false in
local macro_rules | `(tactic| walk_at "FRAME") => `(tactic| (intro y; (try dsimp only); (repeat (refine fr_step (fun hy => (by first | exact absurd hy (by assumption) | (subst hy; first | rfl | kernel_rfl))) fun hy => ?_)); (repeat (first | refine fr_last (by assumption) ?_ | refine fr_rstep (fun hy => (by subst hy; first | rfl | kernel_rfl)) fun hy => ?_)); (try rfl)))
set_option hygiene false in
local macro_rules | `(tactic| walk_at "PUR") => `(tactic| (k_dflt (refine' pur_intro (by omega) ?k6 ?k7 ?k9 ?kB ?_ ?c2 ?c3 ?c4 ?c5; (case k6 => k_is); (case k7 => k_is); (case k9 => (intro _ Xb; first | exact BindsTo.of_eq rfl | exact binds_K (by k_in) rfl (by k_is) rfl rfl rfl)); (case c5 => decide); (case kB => exact locs rfl); (case c2 => exact rfl); (case c3 => exact rfl); (case c4 => exact rfl)); k_whole; intro dp un gd env outer base mean mg mb s E L' h₁ tk hd hu hP F1 N2 B X T; (try dsimp only); (try k_fold)))
set_option hygiene false in
local macro_rules | `(tactic| walk_at "ROOM") => `(tactic| (first | omega | (simp only [Around.deeper, topE]; omega)))
set_option hygiene false in
local macro_rules | `(tactic| walk_at "SITE") => `(tactic| (refine ⟨rfl, by assumption, _, _, _, _, _, _, _, rfl, rfl, rfl, B, X, T⟩))
local macro_rules | `(tactic| walk_at "binaryOp Add ref ref") => `(tactic| (refine stop_of ?_))
set_option hygiene false in
local macro_rules | `(tactic| walk_at "SUB") => `(tactic| (intro p hp; (try simp only [List.mem_cons, List.mem_append, List.not_mem_nil, or_false, false_or] at hp ⊢); (repeat' (refine Or.elim hp (fun hp => ?_) fun hp => ?_)); (all_goals (simp only [hp, true_or, or_true]))))
local macro_rules | `(tactic| walk_at "binaryOp Add str str") => `(tactic| ((refine PyProof.Rows.add_str (hsz := ?hsz) ?_); (case hsz => (first | (simp only [Str.length_append, sizeLine_eq]; omega) | size_fits)); intro _ _))
local macro_rules | `(tactic| k_all) => `(tactic| (refine allLt_ne (by assumption) ?_; omega))
local macro_rules | `(tactic| k_all) => `(tactic| with_reducible assumption)
set_option hygiene false in
local macro_rules | `(tactic| walk_at "PURC") => `(tactic| (k_dflt (refine' pur_introC (by omega) ?k6 ?k7 ?k9 ?kB ?kD ?_ ?c2 ?c3 ?c4; (case k6 => k_is); (case k7 => k_is); (case k9 => (intro _ Xb; first | exact BindsTo.of_eq rfl | exact binds_K (by k_in) rfl (by k_is) rfl rfl rfl)); (case kB => exact rfl); (case kD => decide +kernel); (case c2 => exact rfl); (case c3 => exact rfl); (case c4 => exact rfl)); k_whole; intro dp un gd env outer base mean mg mb s E L' h₁ tk cells hd hu hP F1 N2 Y2 B X T; k_cells Y2; (try simp only [List.cons_append, List.nil_append] at N2); (try dsimp only); (try k_fold)))
local macro_rules | `(tactic| walk_at "compareOp Is str ref") => `(tactic| (refine wpAny_is_other (by rfl) (by intro x; cases x) ?_))
local macro_rules | `(tactic| walk_at "exec For Name Name cons nil") => `(tactic| (refine stop_of ?_))
set_option hygiene false in
local macro_rules | `(tactic| walk_at "OWN") => `(tactic| (k_dflt (refine' own_intro (by omega) ?k6 ?k7 ?k9 ?kB ?_ ?c2 ?c3 ?c4 ?c5; (case k6 => k_is); (case k7 => k_is); (case k9 => (intro _ Xb; first | exact BindsTo.of_eq rfl | exact binds_K (by k_in) rfl (by k_is) rfl rfl rfl)); (case c5 => decide); (case kB => exact locs rfl); (case c2 => exact rfl); (case c3 => exact rfl); (case c4 => exact rfl)); k_whole; intro dp un gd env outer base mean mg mb s E L' h₁ tk hd hu hP F1 N2 B X T; (try dsimp only); (try k_fold)))
set_option hygiene false in
local macro_rules | `(tactic| walk_at "CLS") => `(tactic| (k_dflt (refine' cls_intro (by omega) ?kh ?ki ?kj ?km ?k6 ?k7 ?k9 ?kB ?_ ?c2 ?c3 ?c4 ?c5; (case km => walk_at "MONO"); (case kh => k_is); (case ki => k_is); (case kj => k_is); (case k6 => k_is); (case k7 => k_is); (case k9 => (intro _ _ Xb; first | exact BindsTo.of_eq rfl | exact binds_K (by k_in) rfl (by k_is) rfl rfl rfl)); (case c5 => decide); (case kB => (intro _; exact locs rfl)); (case c2 => exact rfl); (case c3 => exact rfl); (case c4 => exact rfl)); k_whole; intro dp un gd env outer base mean mg mb s E L' h₁ tk xI dI hd hu lI F1 N2 B X T; (try dsimp only); (try k_fold)))
set_option hygiene false in
local macro_rules | `(tactic| walk_at "ENTER") => `(tactic| (refine' code_def ?k1 ?k2 ?k3 ?k4 ?k5 ?kA ?kF ?kK ?k6 ?k7 ?k8 ?k9 ?kB ?_ ?c2 ?c3 ?c4 ?c5; (case kA => exact rfl); (case kF => exact rfl); (case kK => exact rfl); (case k1 => k_asm); (case k2 => k_asm); (case k3 => k_asm); (case k4 => k_asm); (case k5 => k_asm); (case k6 => k_is); (case k7 => k_is); (case k8 => (simp only [depth_under_make, depth_under_kw, depth_in1, depth_deeper, depth_caller, topE]; omega)); (case k9 => first | exact BindsTo.of_eq rfl | exact binds_K (by k_in) rfl (by k_is) rfl rfl rfl | fail "k_enter: no rule for these arguments"); (case c5 => decide); (case kB => exact locs rfl); (case c2 => exact rfl); (case c3 => exact rfl); (case c4 => exact rfl); k_whole; intro g' L2' h' FG' F' N' B' X' T'; (try dsimp only); (try k_lift B'); (try k_fold)))
theorem coded_small (ns : List Int) : ∀ z ∈ codedM ns, z < 256 := by
  intro z hz
  simp only [codedM, code3, List.cons_append, List.nil_append, List.mem_cons, List.not_mem_nil, or_false] at hz
  rcases hz with h | h | h | h | h | h | h | h <;> (rw [h]; exact alphaS_small _)
theorem sub_nil {l : List (Addr × Obj)} : ∀ p ∈ ([] : List (Addr × Obj)), p ∈ l := fun _ h => nomatch h
theorem sub_cons {a : Addr × Obj} {t l : List (Addr × Obj)} (h : a ∈ l) (ht : ∀ p ∈ t, p ∈ l) : ∀ p ∈ a :: t, p ∈ l := fun p hp => by
  rcases List.mem_cons.mp hp with rfl | hp
  · exact h
  · exact ht p hp
theorem first_is : (⟨(codedM [72, 101, 108, 251, 111, 33]).toArray⟩ : Str) = Str.ofString "SGVs+28h" := by decide +kernel
theorem shaped_two (on : List Int) : SeqAt.shaped (.list [.str (Str.ofString "SGVs+28h"), .str ⟨(codedM on).toArray⟩]) = true := by
  have h1 : PyData.strOk (Str.ofString "SGVs+28h") = true := by decide +kernel
  have h2 : PyData.strOk ⟨(codedM on).toArray⟩ = true := by
    simp only [PyData.strOk, List.all_toArray, List.all_eq_true, decide_eq_true_eq]
    exact fun z hz => Nat.lt_trans (coded_small on z hz) (by decide)
  simp [SeqAt.shaped, PyData.canLay0, PyData.canLayAll0, PyData.depth, PyData.depthAll, h1, h2]
theorem strs2 {ys : List Value} {a b : List Nat} : StrsOf ys ([a, b].take [a, b].length) → ∃ t1 t2, ys = [.str ⟨a.toArray⟩ t1, .str ⟨b.toArray⟩ t2] := by
  intro h
  match ys, h with
  | [_, _], ⟨⟨t1, e1⟩, ⟨t2, e2⟩, _⟩ => exact ⟨t1, t2, by rw [e1, e2]⟩
theorem joinL_ones : ∀ l : List Nat, joinL [] (l.map fun z => [z]) = l
  | [] => rfl
  | [_] => rfl
  | a :: b :: r => by
    have := joinL_ones (b :: r)
    simp only [List.map_cons] at this ⊢
    simp [joinL, this]
theorem lw : looseW vw ls = lsW := by decide +kernel
theorem tupsAt_in {h : Heap} {led : List (Addr × Obj)} (hg : ∀ p ∈ led, h.get? p.1 = some p.2) : ∀ {vs : List Value} {bl : List (Nat × Nat × Nat)}, TupsIn led vs bl → TupsAt h vs bl
  | [], [], _ => trivial
  | _ :: _, _ :: _, ⟨⟨a, x, y, z, e1, e2⟩, T⟩ => ⟨⟨a, x, y, z, e1, hg _ e2⟩, tupsAt_in hg T⟩
  | [], _ :: _, T => T.elim
  | _ :: _, [], T => T.elim
theorem blocks_len (f g : List Nat) (h : f.length = 8) (h' : g.length = 8) : (blocksM 9 f g 0 0).length ≤ 5 := by
  rw [← blk_is h h']; exact blk_count h h'
theorem blocks_ok (f g : List Nat) (h : f.length = 8) (h' : g.length = 8) : okB 0 0 (blocksM 9 f g 0 0 ++ [(8, 8, 0)]) := by
  rw [← blk_is h h']
  obtain ⟨h1, h2⟩ := blk_ok (f := f) (g := g) 8 0 8 0 8 (by omega) (by omega) (by omega) (by omega) (by omega)
  refine okB_of h2 (fun b hb => ?_) (by omega) (by omega)
  obtain ⟨m, _⟩ := h1 b hb
  have c1 := m.a1; have c3 := m.b1
  omega
theorem mem_le_sum : ∀ {ps : List (List Nat)} {p : List Nat}, p ∈ ps → p.length ≤ (ps.map List.length).sum
  | q :: ps, p, h => by
    rcases List.mem_cons.mp h with rfl | h
    · simp
    · have := mem_le_sum h
      simp only [List.map_cons, List.sum_cons]; omega
theorem star2_is : Str.ofString "**" = ⟨[42, 42].toArray⟩ := by decide +kernel
local macro_rules | `(tactic| walk_at "eval ListComp") => `(tactic| (refine stop_of ?_))
local macro_rules | `(tactic| walk_at "call builtin:chr") => `(tactic| (refine stop_of ?_))
local macro_rules | `(tactic| walk_at "call builtin:str.join") => `(tactic| (refine stop_of ?_))
local macro_rules | `(tactic| walk_at "compareOp NotEq ref ref") => `(tactic| (refine stop_of ?_))
local macro_rules | `(tactic| walk_at "compareOp Eq ref ref") => `(tactic| (refine stop_of ?_))
local macro_rules | `(tactic| walk_at "call type:bytes") => `(tactic| (refine stop_of ?_))
local macro_rules | `(tactic| walk_at "exec Assign cons ListComp") => `(tactic| (walk_at "exec Assign"))
local macro_rules | `(tactic| walk_at "SUBL") => `(tactic| ((repeat (refine sub_cons (by k_mem) ?_)); exact sub_nil))
local macro_rules | `(tactic| walk_at "getAttr ref") => `(tactic| (refine stop_of ?_))
local macro_rules | `(tactic| walk_at "call builtin:len") => `(tactic| ((with_reducible show wpAny _ _ (call _ [Value.ref _]) _ _ _); refine stop_of ?_))
def YP (w : World) (h : Heap) : Prop := (Kx w.params).In h
set_option maxHeartbeats 80000000 in
theorem law_holds : PySem.Challenge.rw_ik0097_01.Holds := by
  w_on
  o_law
  refine holds_open (q := vw) (loose := ls) (Xt := Xt) (XP := XL vw []) (Yf := Yf) (Ya := Ya) (YP := YP) (N := N) left (fun w s e => Frag.in_of (kAs_eq _) e) (fun w h h' x k => Frag.In.keeps x k) (fun s e => xl_of s (Bool.and_eq_true_iff.mp e).1) XL.keeps (by rfl) (by rfl) (by rfl) (fun s e => recFacts_of (Bool.and_eq_true_iff.mp e).2) (by rfl) (by first | assumption | decide +kernel) (by decide +kernel) ⟨rfl, rfl, rfl, rfl, rfl, by decide +kernel⟩ ?hw ?hc
  case hw => w_witness2
  case hc =>
    rename_i said9
    clear said9
    k_fill
    intro w s₀ s₁ mg mb G Y fa o pm cd doc dV kV ho hd hcd hD hmg hg args vals as hpre hlay hrd hwl hlo
    have hgens : s₁.gens = #[] := hg
    k_behind G ho hd hcd hD hmg hpre hlay hrd hwl hlo cd
    all_goals (try k_fold)
    have KX : (Kx w.params).In s₁.heap := Y
    (rename Below callerA _ _ _ => B)
    (rename Top vw _ _ _ _ _ => T)
    have T2 : Top vw lsW (ExcName.means s₀.heap) mg mb s₁.heap := lw ▸ T
    have B2 : Below callerA s₁.heap [] s₁.heap := B
    (try (rename Flt.MathXP _ _ _ => z1; clear z1))
    (try (rename LooseAre _ _ _ => z1; clear z1))
    (try (rename Glob _ _ _ _ _ _ _ _ => z1; clear z1))
    (try (rename Tables _ _ _ _ => z1; clear z1))
    (try (rename TopE _ _ _ _ => z1; clear z1))
    (try (rename TopW _ _ _ => z1; clear z1))
    (try (rename BMod _ _ _ _ _ => z1; clear z1))
    (rename IntsAre _ _ => hInts)
    (rename Heap.IsList s₁.heap _ _ => hScr)
    rename_i o1 o2 o3 d1 d2 d3 N1 Y1
    rename_i ms hs5 hlay5 hL5 hr5 hl5 w5 w6 q us qa ra w1 r0 hr0 hc1 hc2 h1 tk1 F1
    have hms : ms.length ≤ 63 := by omega
    have d1' : o1.data = .cell none := d1.trans (by kernel_rfl)
    have d2' : o2.data = .cell none := d2.trans (by kernel_rfl)
    have d3' : o3.data = .cell none := d3.trans (by kernel_rfl)
    have F2 := fr_as F1 (m' := fun (y : Str) => if y = "script" then some (.ref q) else none) (by intro y; kernel_rfl)
    clear d1 d2 d3 F1 Y1 hs5 hlay5 hL5 hr5 hl5 r0 w1 hr0 hD hcd ra hg B T G
    have hun : (callerA.units : Nat) + 4000 < cLine := by decide
    have hdp : (callerA.depth : Nat) + 40 < recursionLimit := by decide
    refine (fun h : PySem.Challenge.rw_ik0097_01 = PySem.Challenge.rw_ik0097_01 → Kx = Kx → _ => h rfl rfl) ?_
    k_fill
    intro _ _
    k_steps
    refine Stop.mk ?_
    (rename Fr s₁.heap _ _ _ => F3)
    (rename News s₁.heap _ _ _ => N3)
    (rename IntsAre _ (List.take 3 ms) => hI3)
    rename_i rowA _ lr _ l458 _ l45 D3 ws3 _ hC3 hL3 lD3
    have hl3 := hI3.length
    refine kmk_add_lit F3 N3 ⟨_, N3.get (by k_mem), rfl, _, rfl⟩ ⟨_, N3.get (by k_mem), rfl, _, rfl⟩ rfl ?_ ?_
    case refine_2 => simp [sizeLine_eq]; rw [List.length_take] at hl3; omega
    intro D4 h4 F4 N4 hD4
    clear F3 N3
    k_steps
    refine Stop.mk ?_
    (rename Fr s₁.heap _ _ _ => F5)
    (rename News s₁.heap _ _ _ => N5)
    refine pur_use (t_changed w rfl rfl _ _ _ _ [72, 101, 108, 251, 111, 33] (458 :: List.take 3 ms) ?ia ?ib ?ic ?id) ⟨rfl, F5, _, _, _, _, _, _, _, rfl, rfl, rfl, B2, KX, T2⟩ (by show callerA.depth + 1 + 3 < recursionLimit; omega) (by show callerA.units + 3 + 100 < cLine; omega) ⟨⟨_, N5.get (by k_mem), rfl, _, rfl⟩, ⟨_, N5.get (by k_mem), rfl, _, rfl⟩⟩ ?_
    case ia => exact .cons _ _ (.cons _ _ (.cons _ _ (.cons _ _ (.cons _ _ (.cons _ _ .nil)))))
    case ib => exact .cons _ _ (by simpa using hI3)
    case ic => exact ⟨rfl, by decide⟩
    case id => simp; rw [List.length_take] at hl3; omega
    rintro _ h6 tk6 hs6 F6 ⟨oa, ov, on, ok, rfl, hn6, hi6, hoc6⟩
    have N6 := news_adds F5 N5 hs6 hn6
    have hoff6 := news_off N5 (hn6 _ (.head _)).1
    have hna3 : oa ≠ s₁.heap.objs.size + 1 + 1 + 1 := (hoff6 (s₁.heap.objs.size + 1 + 1 + 1, o1) (by k_mem)).symm
    have hna2 : oa ≠ s₁.heap.objs.size + 1 + 1 := (hoff6 (s₁.heap.objs.size + 1 + 1, o2) (by k_mem)).symm
    have hna1 : oa ≠ s₁.heap.objs.size + 1 := (hoff6 (s₁.heap.objs.size + 1, o3) (by k_mem)).symm
    obtain ⟨rv, hrv, hri⟩ : ∃ rv : List Value, rv = [Value.int 72 tk1, Value.int 101 (tk1 + 1), Value.int 108 (tk1 + 1 + 1), Value.int 251 (tk1 + 1 + 1 + 1), Value.int 111 (tk1 + 1 + 1 + 1 + 1), Value.int 33 (tk1 + 1 + 1 + 1 + 1 + 1)] ∧ IntsAre rv [72, 101, 108, 251, 111, 33] :=
      ⟨_, rfl, .cons _ _ (.cons _ _ (.cons _ _ (.cons _ _ (.cons _ _ (.cons _ _ .nil)))))⟩
    have N7 := news_sub N6 (led := [(oa, W.listOf ov.toArray ok), (rowA, W.listOf rv.toArray 0), (s₁.heap.objs.size + 1 + 1 + 1, o1), (s₁.heap.objs.size + 1 + 1, o2), (s₁.heap.objs.size + 1, o3)]) (by rw [hrv]; walk_at "SUB")
    clear N6 F5 N5 hoff6 hrv
    have hocr : Octs [72, 101, 108, 251, 111, 33] := ⟨rfl, by decide⟩
    k_steps
    refine Stop.mk ?_
    (rename Fr s₁.heap _ _ _ => F8)
    (rename News s₁.heap _ _ _ => N8)
    refine pur_use (t_coded w rfl rfl _ rv _ hri hocr) ⟨rfl, F8, _, _, _, _, _, _, _, rfl, rfl, rfl, B2, KX, T2⟩ (by show callerA.depth + 1 + 3 < recursionLimit; omega) (by show callerA.units + 3 + 100 < cLine; omega) ⟨_, N8.get (by k_mem), rfl, _, rfl⟩ ?_
    rintro _ h9 tk9 hs9 F9 ⟨tf, rfl⟩
    have N9 := news_stay N8 hs9
    clear F8 N8
    k_steps
    refine Stop.mk ?_
    (rename Fr s₁.heap _ _ _ => F10)
    (rename News s₁.heap _ _ _ => N10)
    refine pur_use (t_coded w rfl rfl _ ov _ hi6 hoc6) ⟨rfl, F10, _, _, _, _, _, _, _, rfl, rfl, rfl, B2, KX, T2⟩ (by show callerA.depth + 1 + 3 < recursionLimit; omega) (by show callerA.units + 3 + 100 < cLine; omega) ⟨_, N10.get (by k_mem), rfl, _, rfl⟩ ?_
    rintro _ h11 tk11 hs11 F11 ⟨tg, rfl⟩
    have N11 := news_stay N10 hs11
    clear F10 N10
    k_steps
    refine Stop.mk ?_
    (rename Fr s₁.heap _ _ _ => F12)
    (rename News s₁.heap _ _ _ => N12)
    refine LCg.ListComp_U (F₀ := F12) (by with_unfolding_all rfl) (by decide) (by rfl) (by decide) (by rfl) ?_
    refine wpAny_stop ?_
    k_steps
    refine Stop.mk ?_
    (rename Fr s₁.heap _ _ _ => F13)
    (rename News s₁.heap _ _ _ => N13)
    refine compL_U (vs := [.ref rowA, .ref oa]) (fun i ys => StrsOf ys (([codedM [72, 101, 108, 251, 111, 33], codedM on]).take i)) rfl F13 N13 (.inr ⟨_, .head _, rfl, _, rfl⟩) (by rw [sizeLine_eq]; simp) trivial ?step ?fin
    case step =>
      clear F13 N13
      rintro j ys v I oI C oC D2 m₂ h2 tk2 E2 hys hvj hC hm F14 N14 off ⟨n1', n2', n3'⟩
      have hj2 : j = 0 ∨ j = 1 := by
        rcases Nat.lt_or_ge j 2 with h | h
        · omega
        · rw [List.getElem?_eq_none (by simpa using h)] at hvj; cases hvj
      obtain ⟨r0, vs0, k0, ns0, rfl, hcj, hmem, hi0, hoc0⟩ : ∃ (r0 : Addr) (vs0 : List Value) (k0 : Nat) (ns0 : List Int), v = .ref r0 ∧ [codedM [72, 101, 108, 251, 111, 33], codedM on][j]? = some (codedM ns0) ∧
          ((r0, W.listOf vs0.toArray k0) = (rowA, W.listOf rv.toArray 0) ∨ (r0, W.listOf vs0.toArray k0) = (oa, W.listOf ov.toArray ok)) ∧ IntsAre vs0 ns0 ∧ Octs ns0 := by
        rcases hj2 with rfl | rfl
        · exact ⟨rowA, rv, 0, _, (Option.some.inj hvj).symm, rfl, .inl rfl, hri, hocr⟩
        · exact ⟨oa, ov, ok, _, (Option.some.inj hvj).symm, rfl, .inr rfl, hi6, hoc6⟩
      k_steps
      refine Stop.mk ?_
      refine ListComp_B (F₀ := F14) (by with_unfolding_all rfl) (by decide) (by rfl) (by decide) (by rfl) ?_
      refine wpAny_stop ?_
      k_steps
      refine Stop.mk ?_
      (rename Fr s₁.heap _ _ _ => F15)
      (rename News s₁.heap _ _ _ => N15)
      refine KBa.make_K F15 N15 rfl ⟨_, N15.get (by rcases hmem with h | h <;> (rw [h]; k_mem)), rfl, _, rfl⟩ hi0 (fun n hn => hoc0.2 n hn) (by rw [hoc0.1]; decide) ?_
      intro h16 tb kb F16 N16 hIn16
      clear F15 N15
      k_steps
      refine Stop.mk ?_
      (rename Fr s₁.heap _ _ _ => F17)
      (rename News s₁.heap _ _ _ => N17)
      refine pur_use (t_b64 w rfl rfl _ _ _ (KBa.ints_make hIn16) hoc0) ⟨rfl, F17, _, _, _, _, _, _, _, rfl, rfl, rfl, B2, KX, T2⟩ (by show callerA.depth + 1 + 7 < recursionLimit; omega) (by show callerA.units + 3 + 300 < cLine; omega) trivial ?_
      rintro _ h18 tk18 hs18 F18 ⟨b18, t18, rfl, hb18⟩
      have N18 := news_stay N17 hs18
      clear F17 N17
      k_steps
      refine Stop.mk ?_
      (rename Fr s₁.heap _ _ _ => F19)
      (rename News s₁.heap _ _ _ => N19)
      (try dsimp only)
      refine compB_U (fun i ys => StrsOf ys (((codedM ns0).take i).map fun z => [z])) hb18 rfl F19 N19 (by rw [sizeLine_eq, List.length_map]; exact (by decide : 8 ≤ 16777216)) trivial ?istep ?ifin
      case istep =>
        clear F19 N19
        rintro j2 ys2 c t I2 oI2 C2 oC2 D3 m₃ h3 tk3 E3 hys2 hcj2 hC2 hm2 F20 N20 off2 ⟨n4', n5', n6'⟩
        obtain ⟨z, hz, rfl⟩ : ∃ z : Nat, (codedM ns0)[j2]? = some z ∧ c = (z : Int) := by
          rw [List.getElem?_map] at hcj2
          rcases hzz : (codedM ns0)[j2]? with _ | z
          · rw [hzz] at hcj2; cases hcj2
          · rw [hzz] at hcj2; exact ⟨z, rfl, (Option.some.inj hcj2).symm⟩
        have hz256 : z < 256 := coded_small _ z (List.mem_of_getElem? hz)
        k_steps
        refine Stop.mk ?_
        refine chr_of_range (by omega) (by omega) ?_
        dsimp only
        (try k_steps)
        (try dsimp only)
        refine Stop.mk (CEnd.intro F20 N20 ?_)
        rw [Int.toNat_natCast, List.take_add_one, hz]
        simp only [Option.toList_some, List.map_append, List.map_cons, List.map_nil]
        exact StrsOf.append hys2 ⟨⟨_, rfl⟩, trivial⟩
      case ifin =>
        intro g1 ys2 hys2
        intro D3 h3 tk3 F20 N20 off2
        obtain ⟨v1, v2, v3, v4⟩ := off2
        dsimp only at v1 v2 v3
        have hys2' : StrsOf ys2 ((codedM ns0).map fun z => [z]) := hys2
        dsimp only
        k_steps
        refine Stop.mk ?_
        (rename Fr s₁.heap _ _ _ => F21)
        (rename News s₁.heap _ _ _ => N21)
        rw [empty_str]
        refine join_of (sep := []) ⟨_, N21.get (by k_mem), rfl, _, rfl⟩ hys2' (by simp [codedM, code3]) ?_
        intro t' k'
        rw [joinL_ones]
        dsimp only
        (try k_steps)
        refine Stop.mk (CEnd.intro F21 (news_sub N21 (by walk_at "SUBL")) ?_)
        rw [List.take_add_one, hcj]
        simp only [Option.toList_some]
        exact StrsOf.append hys ⟨⟨_, rfl⟩, trivial⟩
    case fin =>
      intro g1 ys hys
      intro D5 h5 tk5 F14 N14 off
      obtain ⟨u1, u2, u3, u4⟩ := off
      dsimp only at u1 u2 u3
      obtain ⟨t1, t2, hyse⟩ := strs2 hys
      clear hys
      rw [first_is] at hyse
      subst hyse
      dsimp only
      k_steps
      refine Stop.mk ?_
      (rename Fr s₁.heap _ _ _ => F15)
      (rename News s₁.heap _ _ _ => N15)
      refine ne_same (d := .list [.str (Str.ofString "SGVs+28h"), .str ⟨(codedM on).toArray⟩]) (.list (N15.get (by k_mem)) rfl rfl (.cons (.str _ _) (.cons (.str _ _) .nil))) (.list (N15.get (by k_mem)) rfl rfl (.cons (.str _ _) (.cons (.str _ _) .nil))) (shaped_two on) (by show callerA.units + 3 + 64 < cLine; omega) ?_
      k_steps
      refine Stop.mk ?_
      (rename Fr s₁.heap _ _ _ => F16)
      (rename News s₁.heap _ _ _ => N16)
      have N17 := news_sub N16 (led := [(s₁.heap.objs.size + 1 + 1 + 1, o1), (s₁.heap.objs.size + 1 + 1, o2), (s₁.heap.objs.size + 1, o3)]) (by walk_at "SUBL")
      clear N16
      (try clear hs6 hn6 hs9 hs11 hC3 hL3 hD4 hI3 hl3 hna1 hna2 hna3 lr l45 lD3 hri hi6 hocr)
      generalize hf : Str.ofString "SGVs+28h" = f at F16 ⊢
      generalize hg : (⟨(codedM on).toArray⟩ : Str) = g at F16 ⊢
      have hf8 : f.length = 8 := by rw [← hf]; decide +kernel
      have hg8 : g.length = 8 := by rw [← hg]; rfl
      have hbl5 := blocks_len f.cps.toList g.cps.toList (by simpa [Str.length] using hf8) (by simpa [Str.length] using hg8)
      refine pur_use (t_blocks w rfl rfl 9 f g 0 0 _ _ _ _ (by omega) (by omega) (by omega) (by omega) (by omega)) ⟨rfl, F16, _, _, _, _, _, _, _, rfl, rfl, rfl, B2, KX, T2⟩ (by show callerA.depth + 1 + 13 < recursionLimit; omega) (by show callerA.units + 3 + 76 < cLine; omega) trivial ?_
      rintro _ h18 tk18 hs18 F18 ⟨rb, bv, btl, rfl, hnb, hTb⟩
      have N18 := news_adds F16 N17 hs18 hnb
      clear F16 N17
      k_steps
      refine Stop.mk ?_
      (rename Fr s₁.heap _ _ _ => F19)
      (rename News s₁.heap _ _ _ => N19)
      rename_i Db lDb hb1 Dbt lDbt lb2
      refine kmk_add_lit F19 N19 ⟨_, N19.get (by k_mem), rfl, _, rfl⟩ ⟨_, N19.get (by k_mem), rfl, _, rfl⟩ rfl ?_ ?_
      case refine_2 => have := hTb.length; simp [sizeLine_eq]; omega
      intro D20 h20 F20 N20 hD20
      clear F19 N19
      k_steps
      refine Stop.mk ?_
      (rename Fr s₁.heap _ _ _ => F21)
      (rename News s₁.heap _ _ _ => N21)
      obtain ⟨dbo, hdbo, hdbe⟩ : ∃ dbo : Obj, dbo = { cls := Value.type "tuple", data := Data.seq #[Value.int 8 tk18, Value.int 8 (tk18 + 1), Value.int 0 (tk18 + 1 + 1)] } ∧ dbo = tup3 (8, 8, 0) tk18 (tk18 + 1) (tk18 + 1 + 1) := ⟨_, rfl, rfl⟩
      rw [← hdbo] at N21
      have N21b := news_sub N21 (led := (D20, W.listOf (bv.toArray.toList ++ #[Value.ref Db].toList).toArray 0) :: (s₁.heap.objs.size + 1 + 1 + 1, o1) :: (s₁.heap.objs.size + 1 + 1, o2) :: (s₁.heap.objs.size + 1, o3) :: (Db, dbo) :: btl) (by
        intro p hp
        simp only [List.mem_cons, List.mem_append, List.not_mem_nil, or_false] at hp ⊢
        rcases hp with hp | hp | hp | hp | hp | hp <;> simp only [hp, true_or, or_true])
      clear N21
      refine pur_use (t_sm w rfl rfl f g _ _ hf8 hg8) ⟨rfl, F21, _, _, _, _, _, _, _, rfl, rfl, rfl, B2, KX, T2⟩ (by show callerA.depth + 1 + 9 < recursionLimit; omega) (by show callerA.units + 3 + 200 < cLine; omega) trivial ?_
      rintro _ h22 tk22 hs22 F22 ⟨xI, dI, TB, b2, jk, pp, oE, oJ, y1, y2, y3, y4, y5, y6, y7, y8, y9, y10, rfl, hn22, hS⟩
      have N22 := news_adds F21 N21b hs22 hn22
      have ox := news_off N21b (hn22 _ (.head _)).1
      have od := news_off N21b (hn22 _ (.tail _ (.head _))).1
      have ob := news_off N21b (hn22 _ (.tail _ (.tail _ (.head _)))).1
      have oj := news_off N21b (hn22 _ (.tail _ (.tail _ (.tail _ (.head _))))).1
      clear F21 N21b
      simp only [attrs1, attr] at N22
      dsimp only
      k_steps
      refine Stop.mk ?_
      (rename Fr s₁.heap _ _ _ => F23)
      (rename News s₁.heap _ _ _ => N23)
      have N23o := news_sub N23 (led := [(xI, instObj 313 dI), (dI, dictOf (attrs1 w.params f g b2 jk pp .none tf tg y1 y2 y3 y4 y5 y6 y7 y8 y9 y10) 10), (b2, oE), (jk, oJ)]) (sub_cons (.head _) (sub_cons (.tail _ (.head _)) (sub_cons (.tail _ (.tail _ (.head _))) (sub_cons (.tail _ (.tail _ (.tail _ (.head _)))) sub_nil))))
      have N23r := news_sub N23 (led := (D20, W.listOf (bv.toArray.toList ++ #[Value.ref Db].toList).toArray 0) :: (s₁.heap.objs.size + 1 + 1 + 1, o1) :: (s₁.heap.objs.size + 1 + 1, o2) :: (s₁.heap.objs.size + 1, o3) :: (Db, dbo) :: btl) (fun p hp => List.mem_append_right _ hp)
      have N23t := news_sub N23 (led := ledOf TB) (fun p hp => List.mem_append_left _ (.tail _ (.tail _ (.tail _ (.tail _ hp)))))
      clear N23
      have hno : ∀ p ∈ (D20, W.listOf (bv.toArray.toList ++ #[Value.ref Db].toList).toArray 0) :: (s₁.heap.objs.size + 1 + 1 + 1, o1) :: (s₁.heap.objs.size + 1 + 1, o2) :: (s₁.heap.objs.size + 1, o3) :: (Db, dbo) :: btl, p.1 ∉ [(xI, instObj 313 dI), (dI, dictOf (attrs1 w.params f g b2 jk pp .none tf tg y1 y2 y3 y4 y5 y6 y7 y8 y9 y10) 10), (b2, oE), (jk, oJ)].map (·.1) := by
        intro p hp hq
        simp only [List.map_cons, List.map_nil, List.mem_cons, List.not_mem_nil, or_false] at hq
        rcases hq with h | h | h | h
        · exact ox p hp h
        · exact od p hp h
        · exact ob p hp h
        · exact oj p hp h
      refine own_use (t_gmb w rfl rfl f g xI dI b2 jk pp oE oJ TB tf tg y1 y2 y3 y4 y5 y6 y7 y8 y9 y10 hS hf8 hg8) ⟨rfl, F23, _, _, _, _, _, _, _, rfl, rfl, rfl, B2, KX, T2⟩ N23o (by show callerA.depth + 1 + 12 < recursionLimit; omega) (by show callerA.units + 3 + 500 < cLine; omega) ?hLA ?hret
      case hLA =>
        intro r hr
        have hrm : (r.2.1, W.listOf r.2.2.1.toArray r.2.2.2) ∈ ledOf TB := List.mem_map.mpr ⟨r, hr, rfl⟩
        have hlow := hS.fLow r hr
        have hxb : xI < r.2.1 := Nat.lt_trans hS.fxb hlow
        have hdb : dI < r.2.1 := Nat.lt_trans hS.fdx hxb
        refine ⟨_, hideAll_get _ (N23t _ hrm).1 ?_, rfl, _, rfl⟩
        intro hq
        simp only [List.map_cons, List.map_nil, List.mem_cons, List.not_mem_nil, or_false] at hq
        rcases hq with h | h | h | h
        · exact Nat.ne_of_gt hxb h
        · exact Nat.ne_of_gt hdb h
        · exact Nat.ne_of_gt hlow h
        · exact news_ne N23t N23o hrm (.tail _ (.tail _ (.tail _ (.head _)))) (by obtain ⟨hx, _⟩ := id hS.fJunk; rw [hx.1]; intro e; injection e with e; exact absurd e (by decide)) h
      rintro _ h24 tk24 hs24 F24 ⟨rm, mv, mtl, mk, rfl, hn24, hM, hDx⟩
      have N24r := less_news N23r hs24 hno
      have N24m := less_newIn F23 N23o hn24
      have hML : mv.length = (blocksM 9 f.cps.toList g.cps.toList 0 0).length + 1 := by rw [hM.length]; simp
      have N25 : News s₁.heap s₁.heap.objs.size h24 ((rm, W.listOf mv.toArray mk) :: (D20, W.listOf (bv.toArray.toList ++ #[Value.ref Db].toList).toArray 0) :: (s₁.heap.objs.size + 1 + 1 + 1, o1) :: (s₁.heap.objs.size + 1 + 1, o2) :: (s₁.heap.objs.size + 1, o3) :: (mtl ++ (Db, dbo) :: btl)) := by
        intro p hp
        simp only [List.mem_cons, List.mem_append] at hp
        rcases hp with hp | hp | hp | hp | hp | hp | hp | hp
        · exact N24m p (by simp only [hp, List.mem_cons, true_or, or_true])
        · exact N24r p (by simp only [hp, List.mem_cons, true_or, or_true])
        · exact N24r p (by simp only [hp, List.mem_cons, true_or, or_true])
        · exact N24r p (by simp only [hp, List.mem_cons, true_or, or_true])
        · exact N24r p (by simp only [hp, List.mem_cons, true_or, or_true])
        · exact N24m p (.tail _ hp)
        · exact N24r p (by simp only [hp, List.mem_cons, true_or, or_true])
        · exact N24r p (by simp only [hp, List.mem_cons, true_or, or_true])
      clear N24r N24m hno N23r N23t N23o F23 ox od ob oj hn22 hn24 hs22 hs24 hnb hs18 hb1 lb2 hD20
      k_steps
      refine Stop.mk ?_
      (rename Fr s₁.heap _ _ _ => F26)
      (rename News s₁.heap _ _ _ => N26)
      refine LCg.ListComp_U (F₀ := F26) (by with_unfolding_all rfl) (by decide) (by rfl) (by decide) (by rfl) ?_
      refine wpAny_stop ?_
      k_steps
      refine Stop.mk ?_
      (rename Fr s₁.heap _ _ _ => F27)
      (rename News s₁.heap _ _ _ => N27)
      refine compL_W (vs := mv) (fun i ys nw => ∃ tl', nw = (rm, W.listOf mv.toArray mk) :: (D20, W.listOf (bv.toArray.toList ++ #[Value.ref Db].toList).toArray 0) :: (s₁.heap.objs.size + 1 + 1 + 1, o1) :: (s₁.heap.objs.size + 1 + 1, o2) :: (s₁.heap.objs.size + 1, o3) :: (tl' ++ (mtl ++ (Db, dbo) :: btl)) ∧ TupsIn tl' ys ((blocksM 9 f.cps.toList g.cps.toList 0 0 ++ [(8, 8, 0)]).take i)) rfl F27 N27 ?sS (by rw [sizeLine_eq]; omega) ⟨[], rfl, by rw [List.take_zero]; trivial⟩ ?wstep ?wfin
      case sS =>
        rintro i ys nw ⟨tl', rfl, _⟩
        exact .inr ⟨_, .head _, rfl, _, rfl⟩
      case wstep =>
        clear F27 N27
        rintro j ys nw v I oI C oC D2 m₂ h2 tk2 E2 ⟨tl', rfl, hT'⟩ hvj hC hm F28 N28 off ⟨n1', n2', n3'⟩
        have hjl : j < (blocksM 9 f.cps.toList g.cps.toList 0 0 ++ [(8, 8, 0)]).length := by
          rcases Nat.lt_or_ge j mv.length with h | h
          · rw [hM.length] at h; exact h
          · rw [List.getElem?_eq_none h] at hvj; cases hvj
        obtain ⟨⟨b1, b2', b3⟩, ar, x1, x2, x3, dxr, hbr, hvr, hmr⟩ := hM.get hjl
        rw [hvj] at hvr
        obtain rfl := Option.some.inj hvr
        dsimp only at hmr
        have hdxr := hDx _ hmr dxr rfl
        have hm1 : ∀ {p : Addr × Obj}, p ∈ mtl → p ∈ (rm, W.listOf mv.toArray mk) :: (D20, W.listOf (bv.toArray.toList ++ #[Value.ref Db].toList).toArray 0) :: (s₁.heap.objs.size + 1 + 1 + 1, o1) :: (s₁.heap.objs.size + 1 + 1, o2) :: (s₁.heap.objs.size + 1, o3) :: (tl' ++ (mtl ++ (Db, dbo) :: btl)) := fun h => .tail _ (.tail _ (.tail _ (.tail _ (.tail _ (List.mem_append_right _ (List.mem_append_left _ h))))))
        k_steps
        refine Stop.mk ?_
        refine get_a w rfl rfl ⟨rfl, F28, _, _, _, _, _, _, _, rfl, rfl, rfl, B2, KX, T2⟩ (by show callerA.depth + 1 + 4 < recursionLimit; omega) (by show callerA.units + 3 + 71 < cLine; omega) (KX.keeps F28.keep) (N28.get (.tail _ (.tail _ (.tail _ (hm1 hmr))))) (N28.get (.tail _ (.tail _ (.tail _ (hm1 hdxr))))) rfl ?_
        intro h29 tk29 hs29 F29
        have N29 := news_stay N28 hs29
        clear F28 N28
        k_steps
        refine Stop.mk ?_
        refine get_b w rfl rfl ⟨rfl, F29, _, _, _, _, _, _, _, rfl, rfl, rfl, B2, KX, T2⟩ (by show callerA.depth + 1 + 4 < recursionLimit; omega) (by show callerA.units + 3 + 71 < cLine; omega) (KX.keeps F29.keep) (N29.get (.tail _ (.tail _ (.tail _ (hm1 hmr))))) (N29.get (.tail _ (.tail _ (.tail _ (hm1 hdxr))))) rfl ?_
        intro h30 tk30 hs30 F30
        have N30 := news_stay N29 hs30
        clear F29 N29
        k_steps
        refine Stop.mk ?_
        refine get_size w rfl rfl ⟨rfl, F30, _, _, _, _, _, _, _, rfl, rfl, rfl, B2, KX, T2⟩ (by show callerA.depth + 1 + 4 < recursionLimit; omega) (by show callerA.units + 3 + 71 < cLine; omega) (KX.keeps F30.keep) (N30.get (.tail _ (.tail _ (.tail _ (hm1 hmr))))) (N30.get (.tail _ (.tail _ (.tail _ (hm1 hdxr))))) rfl ?_
        intro h31 tk31 hs31 F31
        have N31 := news_stay N30 hs31
        clear F30 N30
        k_steps
        rename_i Dt hDt F32 N32 lD
        (try dsimp only)
        refine Stop.mk (CEndW.intro (nw := (rm, W.listOf mv.toArray mk) :: (D20, W.listOf (bv.toArray.toList ++ #[Value.ref Db].toList).toArray 0) :: (s₁.heap.objs.size + 1 + 1 + 1, o1) :: (s₁.heap.objs.size + 1 + 1, o2) :: (s₁.heap.objs.size + 1, o3) :: (((Dt, tup3 (b1, b2', b3) x1 x2 x3) :: tl') ++ (mtl ++ (Db, dbo) :: btl))) F32 (fun p hp => N32 p ?_) (LCg.Off3.of ?_) ⟨_, rfl, ?_⟩)
        · simp only [List.mem_cons, List.mem_append] at hp ⊢
          rcases hp with hp | hp | hp | hp | hp | hp | hp | hp | (hp | hp) | hp | hp | hp <;> first | (rw [hp]; simp only [true_or, or_true]) | simp only [hp, true_or, or_true]
          exact .inl rfl
        · intro p hp
          simp only [List.mem_cons, List.mem_append] at hp
          have hofm := off.mem
          rcases hp with hp | hp | hp | hp | hp | (hp | hp) | hp | hp | hp
          · exact hofm p (by simp only [hp, List.mem_cons, true_or, or_true])
          · exact hofm p (by simp only [hp, List.mem_cons, true_or, or_true])
          · exact hofm p (by simp only [hp, List.mem_cons, true_or, or_true])
          · exact hofm p (by simp only [hp, List.mem_cons, true_or, or_true])
          · exact hofm p (by simp only [hp, List.mem_cons, true_or, or_true])
          · rw [hp]; exact ⟨Nat.ne_of_gt lD.1, Nat.ne_of_gt lD.2.1, Nat.ne_of_gt lD.2.2.1⟩
          · exact hofm p (by simp only [hp, List.mem_cons, List.mem_append, true_or, or_true])
          · exact hofm p (by simp only [hp, List.mem_cons, List.mem_append, true_or, or_true])
          · exact hofm p (by simp only [hp, List.mem_cons, List.mem_append, true_or, or_true])
          · exact hofm p (by simp only [hp, List.mem_cons, List.mem_append, true_or, or_true])
        · rw [List.take_add_one, hbr]
          refine TupsIn.append (hT'.more fun p hp => .tail _ hp) ⟨⟨_, _, _, _, rfl, .head _⟩, trivial⟩
      case wfin =>
        intro g1 ys nw
        rintro ⟨tl', rfl, hT'⟩
        rw [List.take_of_length_le (by rw [← hM.length]; exact Nat.le_refl _)] at hT'
        intro D6 h6 tk6 F28 N28 off
        obtain ⟨u5, u6, u7, u8⟩ := off
        dsimp only at u5 u6 u7
        dsimp only
        k_steps
        refine Stop.mk ?_
        have g1 : ∀ p ∈ tl', h6.get? p.1 = some p.2 := fun p hp => N28.get (.tail _ (.tail _ (.tail _ (.tail _ (.tail _ (.tail _ (List.mem_append_left _ hp)))))))
        have g2 : ∀ p ∈ btl ++ [(Db, dbo)], h6.get? p.1 = some p.2 := fun p hp => N28.get (.tail _ (.tail _ (.tail _ (.tail _ (.tail _ (.tail _ (List.mem_append_right _ (List.mem_append_right _ (by
          simp only [List.mem_append, List.mem_cons, List.not_mem_nil, or_false] at hp ⊢; exact hp.symm)))))))))
        have T1 : TupsAt h6 ys _ := tupsAt_in g1 hT'
        have T2' : TupsAt h6 (bv ++ [.ref Db]) (blocksM 9 f.cps.toList g.cps.toList 0 0 ++ [(8, 8, 0)]) := tupsAt_in g2 (TupsIn.append (hTb.more fun p hp => List.mem_append_left _ hp) ⟨⟨Db, _, _, _, rfl, List.mem_append_right _ (by rw [hdbe]; exact .head _)⟩, trivial⟩)
        obtain ⟨as1, ra1⟩ := reads_tups T1
        obtain ⟨as2, ra2⟩ := reads_tups T2'
        refine ne_same (.list (N28.get (.head _)) rfl rfl ra1) (.list (N28.get (.tail _ (.tail _ (.head _)))) rfl rfl (by simpa using ra2)) (shaped_tups _) (by show callerA.units + 3 + 64 < cLine; omega) ?_
        k_steps
        refine Stop.mk ?_
        (rename Fr s₁.heap _ _ _ => F33)
        (rename News s₁.heap _ _ _ => N33)
        have T3 : TupsAt _ (bv ++ [Value.ref Db]) (blocksM 9 f.cps.toList g.cps.toList 0 0 ++ [(8, 8, 0)]) := tupsAt_in (led := btl ++ [(Db, dbo)]) (fun p hp => N33.get (.tail _ (.tail _ (.tail _ (.tail _ (.tail _ (.tail _ (List.mem_append_right _ (List.mem_append_right _ (by
          simp only [List.mem_append, List.mem_cons, List.not_mem_nil, or_false] at hp ⊢; exact hp.symm)))))))))) (TupsIn.append (hTb.more fun p hp => List.mem_append_left _ hp) ⟨⟨Db, _, _, _, rfl, List.mem_append_right _ (by rw [hdbe]; exact .head _)⟩, trivial⟩)
        have L3 : Heap.IsList _ D20 (bv ++ [Value.ref Db]).toArray := ⟨_, N33.get (.tail _ (.tail _ (.head _))), rfl, 0, by simp [W.listOf]⟩
        have N33c := news_sub N33 (led := [(s₁.heap.objs.size + 1 + 1 + 1, o1), (s₁.heap.objs.size + 1 + 1, o2), (s₁.heap.objs.size + 1, o3)]) (sub_cons (.tail _ (.tail _ (.tail _ (.head _)))) (sub_cons (.tail _ (.tail _ (.tail _ (.tail _ (.head _))))) (sub_cons (.tail _ (.tail _ (.tail _ (.tail _ (.tail _ (.head _)))))) sub_nil)))
        clear ra1 ra2
        (try clear N33)
        (try clear T1)
        (try clear T2')
        (try clear g1)
        (try clear g2)
        (try clear N28)
        (try clear F28)
        (try clear hT')
        (try clear hM)
        (try clear hDx)
        (try clear hS)
        (try clear hdbe)
        (try clear hdbo)
        (try clear hTb)
        (try clear N27)
        (try clear F27)
        (try clear u5)
        (try clear u6)
        (try clear u7)
        (try clear u8)
        (try clear hML)
        refine pur_use (t_joined w rfl rfl f g _ _ D20 (bv ++ [.ref Db]) _ (by omega) (by omega) (blocks_ok f.cps.toList g.cps.toList (by simpa [Str.length] using hf8) (by simpa [Str.length] using hg8)) (by simp; omega)) ⟨rfl, F33, _, _, _, _, _, _, _, rfl, rfl, rfl, B2, KX, T2⟩ (by show callerA.depth + 1 + 3 < recursionLimit; omega) (by show callerA.units + 3 + 30 < cLine; omega) ⟨L3, T3⟩ ?_
        rintro _ h34 tk34 hs34 F34 ⟨ja, jp, pv, jt, jk', rfl, hnj, hJ⟩
        have hf8' : f.cps.toList.length = 8 := by simpa [Str.length] using hf8
        have hg8' : g.cps.toList.length = 8 := by simpa [Str.length] using hg8
        have hfs : f.cps.toList = okSigns := by rw [← hf]; decide +kernel
        obtain ⟨ps, bo, hps, hbo, jc, jl, jn, jne, jb, jm⟩ := joined hf8' hg8'
        rw [← hps] at hJ
        rw [← hbo] at hnj
        have N34 := news_adds F33 N33c hs34 hnj
        have oja := news_off N33c (hnj _ (.head _)).1
        have ojp := news_off N33c (hnj _ (.tail _ (.head _))).1
        dsimp only at oja ojp
        have na3 : ja ≠ s₁.heap.objs.size + 1 + 1 + 1 := (oja (_, o1) (.head _)).symm
        have na2 : ja ≠ s₁.heap.objs.size + 1 + 1 := (oja (_, o2) (.tail _ (.head _))).symm
        have na1 : ja ≠ s₁.heap.objs.size + 1 := (oja (_, o3) (.tail _ (.tail _ (.head _)))).symm
        have np3 : jp ≠ s₁.heap.objs.size + 1 + 1 + 1 := (ojp (_, o1) (.head _)).symm
        have np2 : jp ≠ s₁.heap.objs.size + 1 + 1 := (ojp (_, o2) (.tail _ (.head _))).symm
        have np1 : jp ≠ s₁.heap.objs.size + 1 := (ojp (_, o3) (.tail _ (.tail _ (.head _)))).symm
        have nap : ja ≠ jp := news_ne N34 N34 (.head _) (.tail _ (.head _)) (by intro e; injection e with e; exact absurd e (by decide))
        simp only [List.cons_append, List.nil_append] at N34
        clear F33 oja ojp hnj N33c T3 L3
        k_steps
        refine Stop.mk ?_
        (rename Fr s₁.heap _ _ _ => F35)
        (rename News s₁.heap _ _ _ => N35)
        rw [star2_is]
        refine join_of (sep := [42, 42]) ⟨_, N35.get (by k_mem), rfl, _, rfl⟩ hJ (by simp only [List.length_cons, List.length_nil]; omega) ?_
        intro tj kj
        dsimp only
        k_steps
        refine Stop.mk ?_
        (rename Fr s₁.heap _ _ _ => F36)
        (rename News s₁.heap _ _ _ => N36)
        have hpl := joinL_len [42, 42] ps
        simp only [List.length_cons, List.length_nil] at hpl
        have jc' : ∀ p ∈ ps, ∀ c ∈ p, c ∈ okSigns := fun p hp c hc => hfs ▸ jc p hp c hc
        have hok : ∀ c ∈ joinL [42, 42] ps, c = 42 ∨ c ∈ okSigns := by
          intro c hc
          rcases joinL_mem _ _ c hc with h | ⟨p, hp, h⟩
          · left; simpa using h
          · exact .inr (jc' p hp c h)
        have htr : transM (joinL [42, 42] ps) = partsP ps := by
          have := tr_glob ps [] (fun p hp c hc h => by have := jc' p hp c hc; rw [h] at this; exact absurd this (by decide)) jm (.inr (.inl (by simp)))
          rw [List.nil_append] at this
          exact this
        rename_i oP dP hz1 tks ls hz2 l1t hz3 oS dS
        refine pur_use (t_trans w rfl rfl ⟨(joinL [42, 42] ps).toArray⟩ _ tj _ ls (by show (joinL [42, 42] ps).toArray.size ≤ 40; rw [List.size_toArray]; omega) hok) ⟨rfl, F36, _, _, _, _, _, _, _, rfl, rfl, rfl, B2, KX, T2⟩ (by show callerA.depth + 1 + 6 < recursionLimit; omega) (by show callerA.units + 3 + 200 < cLine; omega) trivial ?_
        rintro _ h37 tk37 hs37 F37 ⟨rp, qv, qk', rfl, hn37, hP⟩
        dsimp only at hP
        rw [htr] at hP
        have N37 := news_adds F36 N36 hs37 hn37
        have o37 := news_off N36 (hn37 _ (.head _)).1
        dsimp only at o37
        simp only [List.cons_append, List.nil_append] at N37
        have nr3 : rp ≠ s₁.heap.objs.size + 1 + 1 + 1 := (o37 (_, o1) (by k_mem)).symm
        have nr2 : rp ≠ s₁.heap.objs.size + 1 + 1 := (o37 (_, oS) (by k_mem)).symm
        have nr1 : rp ≠ s₁.heap.objs.size + 1 := (o37 (_, oP) (by k_mem)).symm
        have nrp : rp ≠ jp := (o37 (jp, _) (by k_mem)).symm
        have nrl : rp ≠ ls := (o37 (ls, _) (.head _)).symm
        have N38 := news_sub N37 (led := [(rp, W.listOf qv.toArray qk'), (ls, W.listOf #[Value.str (Str.ofString "a star of the law's own") tks] 0), (jp, W.listOf pv.toArray jk'), (s₁.heap.objs.size + 1 + 1 + 1, o1), (s₁.heap.objs.size + 1 + 1, oS), (s₁.heap.objs.size + 1, oP)]) (by walk_at "SUBL")
        clear F36 N36 N37 o37 hn37 hok hpl na1 na2 na3 nap
        k_steps
        refine Stop.mk ?_
        (rename Fr s₁.heap _ _ _ => F39)
        (rename News s₁.heap _ _ _ => N39)
        rename_i oQ dQ
        refine LCt.ListComp_T (F₀ := F39) (by with_unfolding_all rfl) (by decide) (by rfl) (by decide) (by rfl) ?_
        refine wpAny_stop ?_
        k_steps
        refine Stop.mk ?_
        (rename Fr s₁.heap _ _ _ => F40)
        (rename News s₁.heap _ _ _ => N40)
        have hql := hP.len
        have hpl2 := partsP_len ps
        refine compL_T (vs := qv) (fun i ys => ys.length = (((partsP ps).take i).filter fun x => x.isNone).length) rfl F40 N40 (.inr ⟨_, .head _, rfl, _, rfl⟩) (by rw [sizeLine_eq]; omega) rfl ?cstep ?cfin
        case cstep =>
          clear F40 N40
          rintro j ys v I oI C oC D2 m₂ h2 tk2 E2 hys hvj hC hm F41 N41 off ⟨n1', n2', n3'⟩
          obtain ⟨x, hx, hxv⟩ := hP.get hvj
          cases x with
          | none =>
            dsimp only at hxv
            subst hxv
            k_steps
            (rename Fr s₁.heap _ _ _ => F42)
            (rename News s₁.heap _ _ _ => N42)
            refine Stop.mk (CEnd.intro F42 (news_sub N42 (by walk_at "SUBL")) ?_)
            rw [List.take_add_one, hx]
            simp [hys]
          | some y =>
            dsimp only at hxv
            obtain ⟨ty, rfl⟩ := hxv
            k_steps
            (rename Fr s₁.heap _ _ _ => F42)
            (rename News s₁.heap _ _ _ => N42)
            refine Stop.mk (CEnd.intro F42 (news_sub N42 (by walk_at "SUBL")) ?_)
            rw [List.take_add_one, hx]
            simp [hys]
        case cfin =>
          intro g1 ys hys
          rw [hql, List.take_length, partsP_stars ps jne] at hys
          intro D7 h7 tk7 F41 N41 off
          obtain ⟨u5, u6, u7, u8⟩ := off
          dsimp only at u5 u6 u7
          dsimp only
          k_steps
          refine Stop.mk ?_
          obtain ⟨n, hn⟩ : ∃ n, ps.length = n + 1 := ⟨ps.length - 1, by have := List.length_pos_iff.mpr jne; omega⟩
          have hpvl := hJ.length
          refine kun_lenL (k := (n : Int)) ⟨_, N41.get (.head _), rfl, _, rfl⟩ (by simp only [List.size_toArray]; omega) (by omega) ?_
          (try dsimp only)
          k_steps
          refine Stop.mk ?_
          (rename Fr s₁.heap _ _ _ => F42)
          (rename News s₁.heap _ _ _ => N42)
          refine kun_lenL (k := ((n + 1 : Nat) : Int)) ⟨_, N42.get (by k_mem), rfl, _, rfl⟩ (by simp only [List.size_toArray]; omega) (by omega) ?_
          (try dsimp only)
          k_steps
          · exfalso; omega
          refine Stop.mk ?_
          (rename Fr s₁.heap _ _ _ => F43)
          (rename News s₁.heap _ _ _ => N43)
          rename_i tw1 tw2 tw3 tw4 tw5 lT hT1 lTl hT2
          (rename (Txt.slice f (some 1) none).length ≤ f.length => hsl1)
          (rename (Txt.slice g none (some (-1))).length ≤ g.length => hsl2)
          obtain ⟨tx, htx, htl⟩ : ∃ (tx : List Str), (∀ (t1 t2 t3 t4 : Tok) (i : Nat) (v : Value), [Value.str f tf, Value.str g tg, Value.str { cps := bo.toArray } jt, Value.str (Txt.slice f (some 1) none) t1, Value.str (Txt.slice g none (some (-1))) t2, Value.str (f ++ g) t3, Value.str (Str.ofString "") t4][i]? = some v →
              ∃ (x : Str) (t : Tok), tx[i]? = some x ∧ v = Value.str x t ∧ x.length ≤ 16) ∧ tx.length = 7 := by
            refine ⟨[f, g, ⟨bo.toArray⟩, Txt.slice f (some 1) none, Txt.slice g none (some (-1)), f ++ g, Str.ofString ""], ?_, rfl⟩
            intro t1 t2 t3 t4 i v hv
            match i, hv with
            | 0, hv => exact ⟨_, _, rfl, (Option.some.inj hv).symm, by omega⟩
            | 1, hv => exact ⟨_, _, rfl, (Option.some.inj hv).symm, by omega⟩
            | 2, hv => exact ⟨_, _, rfl, (Option.some.inj hv).symm, by simpa [Str.length] using jb⟩
            | 3, hv => exact ⟨_, _, rfl, (Option.some.inj hv).symm, by omega⟩
            | 4, hv => exact ⟨_, _, rfl, (Option.some.inj hv).symm, by omega⟩
            | 5, hv => exact ⟨_, _, rfl, (Option.some.inj hv).symm, by rw [Str.length_append]; omega⟩
            | 6, hv => exact ⟨_, _, rfl, (Option.some.inj hv).symm, by decide⟩
            | k + 7, hv => simp at hv
          clear hps hbo jc jc' htr jm
          refine LCg.ListComp_U (F₀ := F43) (by with_unfolding_all rfl) (by decide) (by rfl) (by decide) (by rfl) ?_
          refine wpAny_stop ?_
          k_steps
          refine Stop.mk ?_
          (rename Fr s₁.heap _ _ _ => F44)
          (rename News s₁.heap _ _ _ => N44)
          refine compL_U (vs := [Value.str f tf, Value.str g tg, Value.str { cps := bo.toArray } jt, Value.str (Txt.slice f (some 1) none) _, Value.str (Txt.slice g none (some (-1))) _, Value.str (f ++ g) _, Value.str (Str.ofString "") _]) (fun i ys => ys = ((tx.take i).map fun x => saidM x.cps.toList ps).map Value.bool) rfl F44 N44 (.inr ⟨_, .head _, rfl, _, rfl⟩) (by rw [sizeLine_eq]; simp) (by simp) ?fstep ?ffin
          case fstep =>
            clear F44 N44
            rintro j ys v I oI C oC D2 m₂ h2 tk2 E2 hys hvj hC hm F45 N45 off ⟨n1', n2', n3'⟩
            obtain ⟨x, tz, hx, rfl, hx16⟩ := htx _ _ _ _ _ _ hvj
            k_steps
            refine Stop.mk ?_
            (rename Fr s₁.heap _ _ _ => F46)
            (rename News s₁.heap _ _ _ => N46)
            refine pur_use (t_fits w rfl rfl rp ls qv (partsP ps) x tz hx16 (by omega) hP (partsP_two ps)) ⟨rfl, F46, _, _, _, _, _, _, _, rfl, rfl, rfl, B2, KX, T2⟩ (by show callerA.depth + 1 + 3 < recursionLimit; omega) (by show callerA.units + 3 + 100 < cLine; omega) ⟨_, N46.get (by k_mem), rfl, _, rfl⟩ ?_
            rintro _ h47 tk47 hs47 F47 rfl
            have N47 := news_stay N46 hs47
            (try k_steps)
            (try dsimp only)
            refine Stop.mk (CEnd.intro F47 (news_sub N47 (by walk_at "SUBL")) ?_)
            rw [hys, List.take_add_one, hx, fits_all _ _ jne]
            simp
          case ffin =>
            intro g1 ys hys
            intro D8 h8 tk8 F45 N45 off
            obtain ⟨v5, v6, v7, v8⟩ := off
            dsimp only at v5 v6 v7
            dsimp only
            k_steps
            refine Stop.mk ?_
            (rename Fr s₁.heap _ _ _ => F46)
            (rename News s₁.heap _ _ _ => N46)
            refine LCg.ListComp_U (F₀ := F46) (by with_unfolding_all rfl) (by decide) (by rfl) (by decide) (by rfl) ?_
            refine wpAny_stop ?_
            k_steps
            refine Stop.mk ?_
            (rename Fr s₁.heap _ _ _ => F47)
            (rename News s₁.heap _ _ _ => N47)
            refine compL_U (vs := [Value.str f tf, Value.str g tg, Value.str { cps := bo.toArray } jt, Value.str (Txt.slice f (some 1) none) _, Value.str (Txt.slice g none (some (-1))) _, Value.str (f ++ g) _, Value.str (Str.ofString "") _]) (fun i ys => ys = ((tx.take i).map fun x => saidM x.cps.toList ps).map Value.bool) rfl F47 N47 (.inr ⟨_, .tail _ (.head _), rfl, _, rfl⟩) (by rw [sizeLine_eq]; simp) (by simp) ?gstep ?gfin
            case gstep =>
              clear F47 N47
              rintro j ys2 v I oI C oC D2 m₂ h2 tk2 E2 hys2 hvj hC hm F48 N48 off ⟨n1', n2', n3'⟩
              obtain ⟨x, tz, hx, rfl, hx16⟩ := htx _ _ _ _ _ _ hvj
              k_steps
              refine Stop.mk ?_
              (rename Fr s₁.heap _ _ _ => F49)
              (rename News s₁.heap _ _ _ => N49)
              refine pur_use (t_said w rfl rfl jp pv ps x tz hx16 jne (by omega) hJ (fun p hp => Nat.le_trans (mem_le_sum hp) (Nat.le_trans jl (by decide)))) ⟨rfl, F49, _, _, _, _, _, _, _, rfl, rfl, rfl, B2, KX, T2⟩ (by show callerA.depth + 1 + 3 < recursionLimit; omega) (by show callerA.units + 3 + 30 < cLine; omega) ⟨_, N49.get (by k_mem), rfl, _, rfl⟩ ?_
              rintro _ h50 tk50 hs50 F50 rfl
              have N50 := news_stay N49 hs50
              (try k_steps)
              (try dsimp only)
              refine Stop.mk (CEnd.intro F50 (news_sub N50 (by walk_at "SUBL")) ?_)
              rw [hys2, List.take_add_one, hx]
              simp
            case gfin =>
              intro g2 ys2 hys2
              intro D9 h9 tk9 F48 N48 off
              obtain ⟨w5', w6', w7', w8'⟩ := off
              dsimp only at w5' w6' w7'
              dsimp only
              k_steps
              refine Stop.mk ?_
              (rename Fr s₁.heap _ _ _ => F49)
              (rename News s₁.heap _ _ _ => N49)
              obtain ⟨as1, ra1⟩ := reads_bools (h := h9) ((tx.take 7).map fun x => saidM x.cps.toList ps)
              have e1 : ys = ((tx.take 7).map fun x => saidM x.cps.toList ps).map Value.bool := hys
              have e2 : ys2 = ((tx.take 7).map fun x => saidM x.cps.toList ps).map Value.bool := hys2
              refine eq_same (.list (N49.get (.tail _ (.head _))) rfl rfl (by rw [e1]; exact ra1)) (.list (N49.get (.head _)) rfl rfl (by rw [e2]; exact ra1)) (shapedB _) (by show callerA.units + 3 + 64 < cLine; omega) ?_
              clear ra1 e1 e2 hys hys2
              k_steps
              refine goodW_bool F49 hgens (raisesW_false ?_) ?_
              · wrow_none_raised
              · kc_post
end Mine
end
theorem PySem.Challenge.cw_ik0097_01_holds : PySem.Challenge.rw_ik0097_01.Holds := by
  exact Mine.law_holds
