import PyProof.Rows.All
import Wide.All
import OpenK.AllK
import Wide.FinOn
import PyProof.Walk
import PyProof.DictTable
import PyProof.AttrMissHeap
import PyProof.Draws
import PyProof.EnumMake
import PySem.Challenge.RW_in0252_01
set_option Elab.async false
set_option maxRecDepth 100000
set_option maxHeartbeats 8000000
set_option linter.all false
set_option rowWalk.seconds 0

-- HA
namespace Mine
open PySem PySem.W PyProof.Rows
/-- the opening, on a tree, over any step -/
def goImp (st : SharedT → Thread → Option (SharedT × Thread)) (ex : Thread → Option (List Value)) : Nat → SharedT → Thread → Option SharedT
  | 0, _, _ => none
  | n + 1, s, t => match ex t with
    | some [] => some s
    | some (_ :: _) => none
    | none => match st s t with
      | some (s', t') => goImp st ex n s' t'
      | none => none
/-- the text behind it, on a tree, over any step -/
def goTop (st : SharedT → Thread → Option (SharedT × Thread)) (ok : Thread → Bool) : Nat → SharedT → Thread → Option SharedT
  | 0, _, _ => none
  | n + 1, s, t => match through t with
    | true => some s
    | false => match ok t with
      | false => none
      | true => match st s t with
        | some (s', t') => goTop st ok n s' t'
        | none => none
theorem goImp_of {tb : String → Option Builtin} {p : Program} {w : World} : ∀ {n : Nat} {s s' : SharedT} {t : Thread}, goImp (stepT (denote tb) p w) Thread.atExitBegin n s t = some s' → importEnds tb p w n s.abs t = some s'.abs
  | 0, _, _, _, h => by cases h
  | n + 1, s, s', t, h => by
    unfold goImp at h
    unfold importEnds
    cases he : t.atExitBegin with
    | some l =>
      rw [he] at h
      cases l with
      | nil => cases h; rfl
      | cons => cases h
    | none =>
      rw [he] at h
      cases hs : stepT (denote tb) p w s t with
      | none => rw [hs] at h; cases h
      | some r => obtain ⟨s₂, t₂⟩ := r; rw [hs] at h; dsimp only; rw [stepT_spec hs]; exact goImp_of h
theorem goTop_of {tb : String → Option Builtin} {p : Program} {w : World} {n₀ : Nat} {ann : Option Value} : ∀ {n : Nat} {s s' : SharedT} {t : Thread}, goTop (stepT (denote tb) p w) (stepOk n₀ ann) n s t = some s' → topRun tb p w n₀ ann n s.abs t = some s'.abs
  | 0, _, _, _, h => by cases h
  | n + 1, s, s', t, h => by
    unfold goTop at h
    unfold topRun
    cases he : through t with
    | true => rw [he] at h; cases h; rfl
    | false =>
      rw [he] at h
      cases hk : stepOk n₀ ann t with
      | false => rw [hk] at h; cases h
      | true =>
        rw [hk] at h
        cases hs : stepT (denote tb) p w s t with
        | none => rw [hs] at h; cases h
        | some r => obtain ⟨s₂, t₂⟩ := r; rw [hs] at h; dsimp only; rw [stepT_spec hs]; exact goTop_of h
/-- the places of even number -/
def evens : List Obj → List Obj
  | [] => []
  | [a] => [a]
  | a :: _ :: r => a :: evens r
theorem evens_at : ∀ (l : List Obj) (i : Nat), (evens l)[i]? = l[2 * i]?
  | [], i => by simp [evens]
  | [a], i => by
    cases i with
    | zero => rfl
    | succ i => simp [evens]
  | a :: b :: r, i => by
    cases i with
    | zero => rfl
    | succ i =>
      show (evens r)[i]? = _
      rw [evens_at r i, show 2 * (i + 1) = 2 * i + 1 + 1 by omega]
      rfl
theorem evens_len : ∀ (l : List Obj), (evens l).length ≤ l.length
  | [] => Nat.le_refl _
  | [_] => Nat.le_refl _
  | _ :: _ :: r => by have := evens_len r; simp only [evens, List.length_cons]; omega
def treeOf : Nat → List Obj → BT
  | 0, _ => .nil
  | _ + 1, [] => .nil
  | n + 1, v :: r => .node v (treeOf n (evens r)) (treeOf n (evens r.tail))
theorem treeOf_get : ∀ (n : Nat) (l : List Obj), l.length ≤ n → ∀ i, (treeOf n l).get i = l[i]?
  | 0, l, h, i => by
    obtain rfl : l = [] := List.eq_nil_of_length_eq_zero (Nat.le_zero.mp h)
    rfl
  | _ + 1, [], _, i => by rfl
  | n + 1, v :: r, h, i => by
    have hr : r.length ≤ n := by simpa using h
    show (BT.node v (treeOf n (evens r)) (treeOf n (evens r.tail))).get i = _
    rw [BT.get_node, treeOf_get n _ (Nat.le_trans (evens_len r) hr), treeOf_get n _ (Nat.le_trans (evens_len _) (by rw [List.length_tail]; omega)), evens_at, evens_at]
    by_cases h0 : i = 0
    · subst h0; rfl
    · rw [if_neg h0]
      obtain ⟨j, rfl⟩ : ∃ j, i = j + 1 := ⟨i - 1, by omega⟩
      rw [List.getElem?_cons_succ]
      by_cases p : (j + 1) % 2 = 1
      · rw [if_pos p, show 2 * ((j + 1) / 2) = j by omega]
      · rw [if_neg p, List.getElem?_tail, show 2 * ((j + 1) / 2 - 1) + 1 = j by omega]
def toT (s : Shared) : SharedT := ⟨treeOf s.heap.objs.toList.length s.heap.objs.toList, s.heap.objs.toList.length, s.heap.life, s.gens, s.drawn, s.toks, s.os⟩
theorem toT_abs (s : Shared) : (toT s).abs = s := by
  obtain ⟨⟨o, l⟩, g, d, t, os⟩ := s
  have : absHeap (treeOf o.toList.length o.toList) o.toList.length l = ⟨o, l⟩ := by
    show Heap.mk _ _ = Heap.mk _ _
    refine congrArg (Heap.mk · l) ?_
    apply Array.ext_getElem?
    intro i
    rw [show ((BT.list (treeOf o.toList.length o.toList) o.toList.length).toArray[i]? = (absHeap (treeOf o.toList.length o.toList) o.toList.length l).objs[i]?) from rfl, absHeap_at, treeOf_get _ _ (Nat.le_refl _)]
    by_cases h : i < o.toList.length
    · rw [if_pos h]
      rw [List.getElem?_eq_getElem h, Option.getD_some, Array.getElem?_eq_getElem (by simpa using h)]
      simp
    · rw [if_neg h, Array.getElem?_eq_none (by simpa using h)]
  exact congrArg (fun h => Shared.mk h g d t os) this
/-- the whole run, over any step, test and fence -/
def runAll (st : Program → World → SharedT → Thread → Option (SharedT × Thread)) (ex : Thread → Option (List Value)) (ok : Nat → Option Value → Thread → Bool) (fen : Program → Shared → Option Shared)
    (nsm : Heap → Addr → Str → Option Value) (im : List Stmt → List Str) (t0 : Program → Shared × Thread) (p : Program) (N : Nat) (w : World) : Option Shared :=
  (goImp (st (opening p) w) ex N (toT (t0 (opening p)).1) (t0 (opening p)).2).bind fun Se => (fen p Se.abs).bind fun s₀ =>
    match s₀.heap.isNs mainGlobals && s₀.gens.size == 0 with
    | true => (goTop (st p w) (ok s₀.heap.objs.size (nsm s₀.heap mainGlobals "__annotations__")) N (toT s₀) (topStub p)).bind fun S₁ =>
      match staticsOk (im p.main.body) s₀.heap S₁.abs.heap && namesBound p S₁.abs.heap && gensDone S₁.abs && laidKept s₀.heap S₁.abs.heap with
      | true => some S₁.abs
      | false => none
    | false => none
theorem runAll_of {p : Program} {N : Nat} {w : World} {s : Shared} (h : runAll (fun p w => stepT (denote treeTable) p w) Thread.atExitBegin stepOk fenceModules? Heap.nsMap importedModules start p N w = some s) : openEnds treeTable p w N = some s := by
  unfold runAll at h
  obtain ⟨Se, h1, h⟩ := Option.bind_eq_some_iff.mp h
  obtain ⟨s₀, h2, h⟩ := Option.bind_eq_some_iff.mp h
  have h1 := goImp_of h1
  rw [toT_abs] at h1
  unfold openEnds fencedOpening
  rw [h1]
  show ((fenceModules? p Se.abs).bind _) = _
  rw [h2]
  show topFrom treeTable p w N s₀ = _
  unfold topFrom
  cases hg : s₀.heap.isNs mainGlobals && s₀.gens.size == 0 with
  | false => rw [hg] at h; cases h
  | true =>
    rw [hg] at h
    obtain ⟨S₁, h3, h⟩ := Option.bind_eq_some_iff.mp h
    have h3 := goTop_of h3
    rw [toT_abs] at h3
    dsimp only
    rw [h3]
    exact h
open PySem.W.Fast in
/-- the same, by the library's quick twins -/
noncomputable abbrev runQ : Program → Nat → World → Option Shared := runAll (fun p w => tw10156331382660048174 (tw11892475500146522536 tw14364793385576792824) p w) tw3805553451399329143 tw6613529449190102663 tw14289696077712309145 tw8920871248978507458 tw5923862056798008813 tw1435165496053646825
open PySem.W.Fast in
theorem runQ_of {p : Program} {N : Nat} {w : World} {s : Shared} (h : runQ p N w = some s) : openEnds treeTable p w N = some s := by
  refine runAll_of ?_
  rw [te10156331382660048174, te11892475500146522536, te14364793385576792824, te3805553451399329143, te6613529449190102663, te14289696077712309145, te8920871248978507458, te5923862056798008813, te1435165496053646825]
  exact h
end Mine

-- HK
namespace Mine
open PySem PySem.W
/-- what a def's statement says -/
def partsOf (n : Nat) : Option (Arguments × List Stmt × Scope) := match PySem.Challenge.pw_in0252_01.main.body[n]? with
  | some (.FunctionDef _ a b _ _ _ s _ _ _) => some (a, b, s)
  | _ => none
/-- the objects that the law can come to, as the top leaves them -/
noncomputable def KK : Params → Frag := by
  refine (?f : ∀ (a0 : Arguments) (b0 : List Stmt) (s0 : Scope), partsOf 3 = some (a0, b0, s0) → ∀ (a1 : Arguments) (b1 : List Stmt) (s1 : Scope), partsOf 4 = some (a1, b1, s1) → ∀ (a2 : Arguments) (b2 : List Stmt) (s2 : Scope), partsOf 7 = some (a2, b2, s2) → ∀ (a3 : Arguments) (b3 : List Stmt) (s3 : Scope), partsOf 10 = some (a3, b3, s3) → ∀ (a4 : Arguments) (b4 : List Stmt) (s4 : Scope), partsOf 12 = some (a4, b4, s4) → ∀ (a5 : Arguments) (b5 : List Stmt) (s5 : Scope), partsOf 13 = some (a5, b5, s5) → ∀ (a6 : Arguments) (b6 : List Stmt) (s6 : Scope), partsOf 15 = some (a6, b6, s6) → ∀ (a7 : Arguments) (b7 : List Stmt) (s7 : Scope), partsOf 36 = some (a7, b7, s7) → ∀ (a8 : Arguments) (b8 : List Stmt) (s8 : Scope), partsOf 38 = some (a8, b8, s8) → ∀ (a9 : Arguments) (b9 : List Stmt) (s9 : Scope), partsOf 39 = some (a9, b9, s9) → ∀ (a10 : Arguments) (b10 : List Stmt) (s10 : Scope), partsOf 40 = some (a10, b10, s10) → ∀ (a11 : Arguments) (b11 : List Stmt) (s11 : Scope), partsOf 41 = some (a11, b11, s11) → ∀ (a12 : Arguments) (b12 : List Stmt) (s12 : Scope), partsOf 42 = some (a12, b12, s12) → ∀ (a13 : Arguments) (b13 : List Stmt) (s13 : Scope), partsOf 43 = some (a13, b13, s13) → ∀ (a14 : Arguments) (b14 : List Stmt) (s14 : Scope), partsOf 44 = some (a14, b14, s14) → ∀ (a15 : Arguments) (b15 : List Stmt) (s15 : Scope), partsOf 45 = some (a15, b15, s15) → ∀ (a16 : Arguments) (b16 : List Stmt) (s16 : Scope), partsOf 46 = some (a16, b16, s16) → Params → Frag)
    ⟨_, _, _, _, _, _, _⟩ [_, _, _, _] ⟨_, _, _, _, _⟩ rfl ⟨_, _, _, _, _, _, _⟩ [_, _, _, _] ⟨_, _, _, _, _⟩ rfl ⟨_, _, _, _, _, _, _⟩ [_, _, _] ⟨_, _, _, _, _⟩ rfl ⟨_, _, _, _, _, _, _⟩ [_] ⟨_, _, _, _, _⟩ rfl ⟨_, _, _, _, _, _, _⟩ [_, _, _, _, _, _] ⟨_, _, _, _, _⟩ rfl ⟨_, _, _, _, _, _, _⟩ [_, _, _, _, _, _, _, _] ⟨_, _, _, _, _⟩ rfl ⟨_, _, _, _, _, _, _⟩ [_] ⟨_, _, _, _, _⟩ rfl ⟨_, _, _, _, _, _, _⟩ [_, _, _] ⟨_, _, _, _, _⟩ rfl ⟨_, _, _, _, _, _, _⟩ [_] ⟨_, _, _, _, _⟩ rfl ⟨_, _, _, _, _, _, _⟩ [_, _, _, _, _] ⟨_, _, _, _, _⟩ rfl ⟨_, _, _, _, _, _, _⟩ [_] ⟨_, _, _, _, _⟩ rfl ⟨_, _, _, _, _, _, _⟩ [_, _, _] ⟨_, _, _, _, _⟩ rfl ⟨_, _, _, _, _, _, _⟩ [_, _, _, _, _, _] ⟨_, _, _, _, _⟩ rfl ⟨_, _, _, _, _, _, _⟩ [_] ⟨_, _, _, _, _⟩ rfl ⟨_, _, _, _, _, _, _⟩ [_] ⟨_, _, _, _, _⟩ rfl ⟨_, _, _, _, _, _, _⟩ [_] ⟨_, _, _, _, _⟩ rfl ⟨_, _, _, _, _, _, _⟩ [_, _, _, _, _, _, _, _, _, _, _, _, _, _, _, _] ⟨_, _, _, _, _⟩ rfl
  exact fun a0 b0 s0 _ a1 b1 s1 _ a2 b2 s2 _ a3 b3 s3 _ a4 b4 s4 _ a5 b5 s5 _ a6 b6 s6 _ a7 b7 s7 _ a8 b8 s8 _ a9 b9 s9 _ a10 b10 s10 _ a11 b11 s11 _ a12 b12 s12 _ a13 b13 s13 _ a14 b14 s14 _ a15 b15 s15 _ a16 b16 s16 _ P =>
    ((nat_lit 3, { cls := .type "dict", dict := (none : Option Nat), data := .dict (List.toArray ({ hash := PyData.keyHash P (Str.ofString "__name__"), key := .str (Str.ofString "__name__") (165 : Nat), val := .str (Str.ofString "law_in0252_01") (641 : Nat) } :: { hash := PyData.keyHash P (Str.ofString "__doc__"), key := .str (Str.ofString "__doc__") (166 : Nat), val := .none } :: { hash := PyData.keyHash P (Str.ofString "__package__"), key := .str (Str.ofString "__package__") (167 : Nat), val := .none } :: { hash := PyData.keyHash P (Str.ofString "__loader__"), key := .str (Str.ofString "__loader__") (168 : Nat), val := .builtin "__main__.__loader__#opaque" } :: { hash := PyData.keyHash P (Str.ofString "__spec__"), key := .str (Str.ofString "__spec__") (169 : Nat), val := .none } :: { hash := PyData.keyHash P (Str.ofString "__annotations__"), key := .str (Str.ofString "__annotations__") (170 : Nat), val := .ref (6 : Nat) } :: { hash := PyData.keyHash P (Str.ofString "__builtins__"), key := .str (Str.ofString "__builtins__") (171 : Nat), val := .ref (4 : Nat) } :: { hash := PyData.keyHash P (Str.ofString "__file__"), key := .str (Str.ofString "__file__") (173 : Nat), val := .str (Str.ofString "/claim/cut.py") (172 : Nat) } :: { hash := PyData.keyHash P (Str.ofString "__cached__"), key := .str (Str.ofString "__cached__") (174 : Nat), val := .none } :: { hash := PyData.keyHash P (Str.ofString "_sre"), key := .str (Str.ofString "_sre") (275 : Nat), val := .ref (12 : Nat) } :: { hash := PyData.keyHash P (Str.ofString "StatisticsError"), key := .str (Str.ofString "StatisticsError") (301 : Nat), val := .ref (41 : Nat) } :: { hash := PyData.keyHash P (Str.ofString "median_low"), key := .str (Str.ofString "median_low") (309 : Nat), val := .ref (51 : Nat) } :: { hash := PyData.keyHash P (Str.ofString "median_high"), key := .str (Str.ofString "median_high") (317 : Nat), val := .ref (58 : Nat) } :: { hash := PyData.keyHash P (Str.ofString "_twin_re_1"), key := .str (Str.ofString "_twin_re_1") (357 : Nat), val := .ref (63 : Nat) } :: { hash := PyData.keyHash P (Str.ofString "translate"), key := .str (Str.ofString "translate") (366 : Nat), val := .ref (70 : Nat) } :: { hash := PyData.keyHash P (Str.ofString "_special_chars_map"), key := .str (Str.ofString "_special_chars_map") (514 : Nat), val := .ref (72 : Nat) } :: { hash := PyData.keyHash P (Str.ofString "escape"), key := .str (Str.ofString "escape") (521 : Nat), val := .ref (82 : Nat) } :: { hash := PyData.keyHash P (Str.ofString "_translate"), key := .str (Str.ofString "_translate") (542 : Nat), val := .ref (89 : Nat) } :: { hash := PyData.keyHash P (Str.ofString "_join_translated_parts"), key := .str (Str.ofString "_join_translated_parts") (555 : Nat), val := .ref (96 : Nat) } :: { hash := PyData.keyHash P (Str.ofString "S_IFMT"), key := .str (Str.ofString "S_IFMT") (564 : Nat), val := .ref (103 : Nat) } :: { hash := PyData.keyHash P (Str.ofString "S_IFDIR"), key := .str (Str.ofString "S_IFDIR") (566 : Nat), val := .int 16384 (565 : Nat) } :: { hash := PyData.keyHash P (Str.ofString "S_IFCHR"), key := .str (Str.ofString "S_IFCHR") (568 : Nat), val := .int 8192 (567 : Nat) } :: { hash := PyData.keyHash P (Str.ofString "S_IFBLK"), key := .str (Str.ofString "S_IFBLK") (570 : Nat), val := .int 24576 (569 : Nat) } :: { hash := PyData.keyHash P (Str.ofString "S_IFREG"), key := .str (Str.ofString "S_IFREG") (572 : Nat), val := .int 32768 (571 : Nat) } :: { hash := PyData.keyHash P (Str.ofString "S_IFIFO"), key := .str (Str.ofString "S_IFIFO") (574 : Nat), val := .int 4096 (573 : Nat) } :: { hash := PyData.keyHash P (Str.ofString "S_IFLNK"), key := .str (Str.ofString "S_IFLNK") (576 : Nat), val := .int 40960 (575 : Nat) } :: { hash := PyData.keyHash P (Str.ofString "S_IFSOCK"), key := .str (Str.ofString "S_IFSOCK") (578 : Nat), val := .int 49152 (577 : Nat) } :: { hash := PyData.keyHash P (Str.ofString "S_ISUID"), key := .str (Str.ofString "S_ISUID") (580 : Nat), val := .int 2048 (579 : Nat) } :: { hash := PyData.keyHash P (Str.ofString "S_ISGID"), key := .str (Str.ofString "S_ISGID") (582 : Nat), val := .int 1024 (581 : Nat) } :: { hash := PyData.keyHash P (Str.ofString "S_ISVTX"), key := .str (Str.ofString "S_ISVTX") (584 : Nat), val := .int 512 (583 : Nat) } :: { hash := PyData.keyHash P (Str.ofString "S_IRUSR"), key := .str (Str.ofString "S_IRUSR") (586 : Nat), val := .int 256 (585 : Nat) } :: { hash := PyData.keyHash P (Str.ofString "S_IWUSR"), key := .str (Str.ofString "S_IWUSR") (588 : Nat), val := .int 128 (587 : Nat) } :: { hash := PyData.keyHash P (Str.ofString "S_IXUSR"), key := .str (Str.ofString "S_IXUSR") (590 : Nat), val := .int 64 (589 : Nat) } :: { hash := PyData.keyHash P (Str.ofString "S_IRGRP"), key := .str (Str.ofString "S_IRGRP") (592 : Nat), val := .int 32 (591 : Nat) } :: { hash := PyData.keyHash P (Str.ofString "S_IWGRP"), key := .str (Str.ofString "S_IWGRP") (594 : Nat), val := .int 16 (593 : Nat) } :: { hash := PyData.keyHash P (Str.ofString "S_IXGRP"), key := .str (Str.ofString "S_IXGRP") (596 : Nat), val := .int 8 (595 : Nat) } :: { hash := PyData.keyHash P (Str.ofString "S_IROTH"), key := .str (Str.ofString "S_IROTH") (598 : Nat), val := .int 4 (597 : Nat) } :: { hash := PyData.keyHash P (Str.ofString "S_IWOTH"), key := .str (Str.ofString "S_IWOTH") (600 : Nat), val := .int 2 (599 : Nat) } :: { hash := PyData.keyHash P (Str.ofString "S_IXOTH"), key := .str (Str.ofString "S_IXOTH") (602 : Nat), val := .int 1 (601 : Nat) } :: { hash := PyData.keyHash P (Str.ofString "_filemode_table"), key := .str (Str.ofString "_filemode_table") (628 : Nat), val := .ref (136 : Nat) } :: { hash := PyData.keyHash P (Str.ofString "filemode"), key := .str (Str.ofString "filemode") (640 : Nat), val := .ref (143 : Nat) } :: { hash := PyData.keyHash P (Str.ofString "_law_number"), key := .str (Str.ofString "_law_number") (651 : Nat), val := .ref (150 : Nat) } :: { hash := PyData.keyHash P (Str.ofString "_law_back"), key := .str (Str.ofString "_law_back") (661 : Nat), val := .ref (157 : Nat) } :: { hash := PyData.keyHash P (Str.ofString "_law_signs"), key := .str (Str.ofString "_law_signs") (667 : Nat), val := .ref (162 : Nat) } :: { hash := PyData.keyHash P (Str.ofString "_law_pattern"), key := .str (Str.ofString "_law_pattern") (676 : Nat), val := .ref (169 : Nat) } :: { hash := PyData.keyHash P (Str.ofString "_law_read"), key := .str (Str.ofString "_law_read") (686 : Nat), val := .ref (176 : Nat) } :: { hash := PyData.keyHash P (Str.ofString "_law_over"), key := .str (Str.ofString "_law_over") (692 : Nat), val := .ref (181 : Nat) } :: { hash := PyData.keyHash P (Str.ofString "_law_takes"), key := .str (Str.ofString "_law_takes") (698 : Nat), val := .ref (186 : Nat) } :: { hash := PyData.keyHash P (Str.ofString "_law_third"), key := .str (Str.ofString "_law_third") (704 : Nat), val := .ref (191 : Nat) } :: { hash := PyData.keyHash P (Str.ofString "law"), key := .str (Str.ofString "law") (710 : Nat), val := .ref (196 : Nat) } :: [])) 50 }) ::
    (nat_lit 32, { cls := .type "tuple", dict := (none : Option Nat), data := .seq #[.type "ValueError"] }) ::
    (nat_lit 39, { cls := .type "tuple", dict := (none : Option Nat), data := .seq #[] }) ::
    (nat_lit 40, { cls := .type "dict", dict := (none : Option Nat), data := .dict #[{ hash := PyData.keyHash P (Str.ofString "__module__"), key := .str (Str.ofString "__module__") (291 : Nat), val := .str (Str.ofString "cpy313.statistics") (282 : Nat) }, { hash := PyData.keyHash P (Str.ofString "__firstlineno__"), key := .str (Str.ofString "__firstlineno__") (295 : Nat), val := .int 3 (294 : Nat) }, { hash := PyData.keyHash P (Str.ofString "__static_attributes__"), key := .str (Str.ofString "__static_attributes__") (296 : Nat), val := .ref (39 : Nat) }, { hash := PyData.keyHash P (Str.ofString "__weakref__"), key := .str (Str.ofString "__weakref__") (298 : Nat), val := .ref (42 : Nat) }, { hash := PyData.keyHash P (Str.ofString "__doc__"), key := .str (Str.ofString "__doc__") (299 : Nat), val := .none }] 3 }) ::
    (nat_lit 41, { cls := .type "type", dict := (none : Option Nat), data := .cls { name := Str.ofString "StatisticsError", bases := [.type "ValueError"], mro := [.ref (41 : Nat), .type "ValueError", .type "Exception", .type "BaseException", .type "object"], ns := (40 : Nat), qualname := Str.ofString "StatisticsError" }, slots := #[some (.ref (32 : Nat)), none, some (.str (Str.ofString "StatisticsError") (284 : Nat)), some (.str (Str.ofString "StatisticsError") (292 : Nat)), some (.builtin "ValueError.__new__"), some (.bool true)] }) ::
    (nat_lit 42, { cls := .type "getset_descriptor", dict := (none : Option Nat), data := .fields #[.str (Str.ofString "__weakref__") (297 : Nat), .ref (41 : Nat), .builtin "ExceptionGroup.__weakref__", .none] }) ::
    (nat_lit 45, { cls := .type "tuple", dict := (none : Option Nat), data := .seq #[] }) ::
    (nat_lit 47, { cls := .type "tuple", dict := (none : Option Nat), data := .seq #[.str (Str.ofString "data") (305 : Nat), .str (Str.ofString "n") (306 : Nat)] }) ::
    (nat_lit 48, { cls := .type "tuple", dict := (none : Option Nat), data := .seq #[] }) ::
    (nat_lit 50, { cls := .type "code", dict := (none : Option Nat), data := .fields #[.str (Str.ofString "median_low") (302 : Nat), .str (Str.ofString "median_low") (303 : Nat), .str (Str.ofString "/claim/cut.py") (304 : Nat), .int 5 (0 : Nat), .int 1 (0 : Nat), .int 0 (0 : Nat), .int 0 (0 : Nat), .int 3 (0 : Nat), .ref (45 : Nat), .bool true, .int 276 (0 : Nat), .ref (46 : Nat), .none, .ref (47 : Nat), .ref (48 : Nat), .ref (49 : Nat), .int 307 (0 : Nat), .int 5 (0 : Nat), .str (Str.ofString "/claim/cut.py") (308 : Nat)] }) ::
    (nat_lit 51, { cls := .type "function", dict := (none : Option Nat), data := .func { name := Str.ofString "median_low", qualname := Str.ofString "median_low", params := a0, body := FuncBody.stmts b0, scope := s0, globals := (3 : Nat), closure := ([] : List (Str × Nat)), defaults := .none, kwdefaults := .none, builtins := (0 : Nat), annotations := (none : Option Nat), pyModule := .str (Str.ofString "cpy313.statistics") (282 : Nat), code := .ref (50 : Nat) } }) ::
    (nat_lit 52, { cls := .type "tuple", dict := (none : Option Nat), data := .seq #[] }) ::
    (nat_lit 54, { cls := .type "tuple", dict := (none : Option Nat), data := .seq #[.str (Str.ofString "data") (313 : Nat), .str (Str.ofString "n") (314 : Nat)] }) ::
    (nat_lit 55, { cls := .type "tuple", dict := (none : Option Nat), data := .seq #[] }) ::
    (nat_lit 57, { cls := .type "code", dict := (none : Option Nat), data := .fields #[.str (Str.ofString "median_high") (310 : Nat), .str (Str.ofString "median_high") (311 : Nat), .str (Str.ofString "/claim/cut.py") (312 : Nat), .int 14 (0 : Nat), .int 1 (0 : Nat), .int 0 (0 : Nat), .int 0 (0 : Nat), .int 3 (0 : Nat), .ref (52 : Nat), .bool true, .int 276 (0 : Nat), .ref (53 : Nat), .none, .ref (54 : Nat), .ref (55 : Nat), .ref (56 : Nat), .int 315 (0 : Nat), .int 14 (0 : Nat), .str (Str.ofString "/claim/cut.py") (316 : Nat)] }) ::
    (nat_lit 58, { cls := .type "function", dict := (none : Option Nat), data := .func { name := Str.ofString "median_high", qualname := Str.ofString "median_high", params := a1, body := FuncBody.stmts b1, scope := s1, globals := (3 : Nat), closure := ([] : List (Str × Nat)), defaults := .none, kwdefaults := .none, builtins := (0 : Nat), annotations := (none : Option Nat), pyModule := .str (Str.ofString "cpy313.statistics") (282 : Nat), code := .ref (57 : Nat) } }) ::
    (nat_lit 62, { cls := .type "tuple", dict := (none : Option Nat), data := .seq #[.int 14 (0 : Nat), .int 14 (0 : Nat), .int 4 (0 : Nat), .int 1 (0 : Nat), .int 1 (0 : Nat), .int 9 (0 : Nat), .int 0 (0 : Nat), .int 64 (0 : Nat), .int 0 (0 : Nat), .int 1342177280 (0 : Nat), .int 0 (0 : Nat), .int 0 (0 : Nat), .int 0 (0 : Nat), .int 0 (0 : Nat), .int 0 (0 : Nat), .int 17 (0 : Nat), .int 0 (0 : Nat), .int 13 (0 : Nat), .int 11 (0 : Nat), .int 9 (0 : Nat), .int 0 (0 : Nat), .int 64 (0 : Nat), .int 0 (0 : Nat), .int 1342177280 (0 : Nat), .int 0 (0 : Nat), .int 0 (0 : Nat), .int 0 (0 : Nat), .int 0 (0 : Nat), .int 0 (0 : Nat), .int 17 (0 : Nat), .int 1 (0 : Nat), .int 1 (0 : Nat)] }) ::
    (nat_lit 63, { cls := .type "re.Pattern", dict := (none : Option Nat), data := .fields #[.str (Str.ofString "([&~|])") (321 : Nat), .int 32 (356 : Nat), .int 1 (0 : Nat), .none, .none, .ref (62 : Nat), .int 0 (0 : Nat)] }) ::
    (nat_lit 64, { cls := .type "tuple", dict := (none : Option Nat), data := .seq #[] }) ::
    (nat_lit 66, { cls := .type "tuple", dict := (none : Option Nat), data := .seq #[.str (Str.ofString "pat") (361 : Nat), .str (Str.ofString "STAR") (362 : Nat), .str (Str.ofString "parts") (363 : Nat)] }) ::
    (nat_lit 67, { cls := .type "tuple", dict := (none : Option Nat), data := .seq #[] }) ::
    (nat_lit 69, { cls := .type "code", dict := (none : Option Nat), data := .fields #[.str (Str.ofString "translate") (358 : Nat), .str (Str.ofString "translate") (359 : Nat), .str (Str.ofString "/claim/cut.py") (360 : Nat), .int 22 (0 : Nat), .int 1 (0 : Nat), .int 0 (0 : Nat), .int 0 (0 : Nat), .int 3 (0 : Nat), .ref (64 : Nat), .bool true, .int 276 (0 : Nat), .ref (65 : Nat), .none, .ref (66 : Nat), .ref (67 : Nat), .ref (68 : Nat), .int 364 (0 : Nat), .int 22 (0 : Nat), .str (Str.ofString "/claim/cut.py") (365 : Nat)] }) ::
    (nat_lit 70, { cls := .type "function", dict := (none : Option Nat), data := .func { name := Str.ofString "translate", qualname := Str.ofString "translate", params := a2, body := FuncBody.stmts b2, scope := s2, globals := (3 : Nat), closure := ([] : List (Str × Nat)), defaults := .none, kwdefaults := .none, builtins := (0 : Nat), annotations := (none : Option Nat), pyModule := .str (Str.ofString "cpy313.fnmatch") (318 : Nat), code := .ref (69 : Nat) } }) ::
    (nat_lit 72, { cls := .type "dict", dict := (none : Option Nat), data := .dict (List.toArray ({ hash := 40, key := .int 40 (370 : Nat), val := .str (Str.ofString "\\(") (374 : Nat) } :: { hash := 41, key := .int 41 (376 : Nat), val := .str (Str.ofString "\\)") (380 : Nat) } :: { hash := 91, key := .int 91 (382 : Nat), val := .str (Str.ofString "\\[") (386 : Nat) } :: { hash := 93, key := .int 93 (388 : Nat), val := .str (Str.ofString "\\]") (392 : Nat) } :: { hash := 123, key := .int 123 (394 : Nat), val := .str (Str.ofString "\\{") (398 : Nat) } :: { hash := 125, key := .int 125 (400 : Nat), val := .str (Str.ofString "\\}") (404 : Nat) } :: { hash := 63, key := .int 63 (406 : Nat), val := .str (Str.ofString "\\?") (410 : Nat) } :: { hash := 42, key := .int 42 (412 : Nat), val := .str (Str.ofString "\\*") (416 : Nat) } :: { hash := 43, key := .int 43 (418 : Nat), val := .str (Str.ofString "\\+") (422 : Nat) } :: { hash := 45, key := .int 45 (424 : Nat), val := .str (Str.ofString "\\-") (428 : Nat) } :: { hash := 124, key := .int 124 (430 : Nat), val := .str (Str.ofString "\\|") (434 : Nat) } :: { hash := 94, key := .int 94 (436 : Nat), val := .str (Str.ofString "\\^") (440 : Nat) } :: { hash := 36, key := .int 36 (442 : Nat), val := .str (Str.ofString "\\$") (446 : Nat) } :: { hash := 92, key := .int 92 (448 : Nat), val := .str (Str.ofString "\\\\") (452 : Nat) } :: { hash := 46, key := .int 46 (454 : Nat), val := .str (Str.ofString "\\.") (458 : Nat) } :: { hash := 38, key := .int 38 (460 : Nat), val := .str (Str.ofString "\\&") (464 : Nat) } :: { hash := 126, key := .int 126 (466 : Nat), val := .str (Str.ofString "\\~") (470 : Nat) } :: { hash := 35, key := .int 35 (472 : Nat), val := .str (Str.ofString "\\#") (476 : Nat) } :: { hash := 32, key := .int 32 (478 : Nat), val := .str (Str.ofString "\\ ") (482 : Nat) } :: { hash := 9, key := .int 9 (484 : Nat), val := .str (Str.ofString "\\\t") (488 : Nat) } :: { hash := 10, key := .int 10 (490 : Nat), val := .str (Str.ofString "\\\n") (494 : Nat) } :: { hash := 13, key := .int 13 (496 : Nat), val := .str (Str.ofString "\\\x0d") (500 : Nat) } :: { hash := 11, key := .int 11 (502 : Nat), val := .str (Str.ofString "\\\x0b") (506 : Nat) } :: { hash := 12, key := .int 12 (508 : Nat), val := .str (Str.ofString "\\\x0c") (512 : Nat) } :: [])) 24 }) ::
    (nat_lit 76, { cls := .type "tuple", dict := (none : Option Nat), data := .seq #[] }) ::
    (nat_lit 78, { cls := .type "tuple", dict := (none : Option Nat), data := .seq #[.str (Str.ofString "pattern") (518 : Nat)] }) ::
    (nat_lit 79, { cls := .type "tuple", dict := (none : Option Nat), data := .seq #[] }) ::
    (nat_lit 81, { cls := .type "code", dict := (none : Option Nat), data := .fields #[.str (Str.ofString "escape") (515 : Nat), .str (Str.ofString "escape") (516 : Nat), .str (Str.ofString "/claim/cut.py") (517 : Nat), .int 28 (0 : Nat), .int 1 (0 : Nat), .int 0 (0 : Nat), .int 0 (0 : Nat), .int 3 (0 : Nat), .ref (76 : Nat), .bool true, .int 276 (0 : Nat), .ref (77 : Nat), .none, .ref (78 : Nat), .ref (79 : Nat), .ref (80 : Nat), .int 519 (0 : Nat), .int 28 (0 : Nat), .str (Str.ofString "/claim/cut.py") (520 : Nat)] }) ::
    (nat_lit 82, { cls := .type "function", dict := (none : Option Nat), data := .func { name := Str.ofString "escape", qualname := Str.ofString "escape", params := a3, body := FuncBody.stmts b3, scope := s3, globals := (3 : Nat), closure := ([] : List (Str × Nat)), defaults := .none, kwdefaults := .none, builtins := (0 : Nat), annotations := (none : Option Nat), pyModule := .str (Str.ofString "re") (367 : Nat), code := .ref (81 : Nat) } }) ::
    (nat_lit 83, { cls := .type "tuple", dict := (none : Option Nat), data := .seq #[] }) ::
    (nat_lit 85, { cls := .type "tuple", dict := (none : Option Nat), data := .seq #[.str (Str.ofString "pat") (527 : Nat), .str (Str.ofString "STAR") (528 : Nat), .str (Str.ofString "QUESTION_MARK") (529 : Nat), .str (Str.ofString "res") (530 : Nat), .str (Str.ofString "add") (531 : Nat), .str (Str.ofString "i") (532 : Nat), .str (Str.ofString "n") (533 : Nat), .str (Str.ofString "c") (534 : Nat), .str (Str.ofString "j") (535 : Nat), .str (Str.ofString "stuff") (536 : Nat), .str (Str.ofString "chunks") (537 : Nat), .str (Str.ofString "k") (538 : Nat), .str (Str.ofString "chunk") (539 : Nat)] }) ::
    (nat_lit 86, { cls := .type "tuple", dict := (none : Option Nat), data := .seq #[] }) ::
    (nat_lit 88, { cls := .type "code", dict := (none : Option Nat), data := .fields #[.str (Str.ofString "_translate") (524 : Nat), .str (Str.ofString "_translate") (525 : Nat), .str (Str.ofString "/claim/cut.py") (526 : Nat), .int 35 (0 : Nat), .int 3 (0 : Nat), .int 0 (0 : Nat), .int 0 (0 : Nat), .int 3 (0 : Nat), .ref (83 : Nat), .bool true, .int 276 (0 : Nat), .ref (84 : Nat), .none, .ref (85 : Nat), .ref (86 : Nat), .ref (87 : Nat), .int 540 (0 : Nat), .int 35 (0 : Nat), .str (Str.ofString "/claim/cut.py") (541 : Nat)] }) ::
    (nat_lit 89, { cls := .type "function", dict := (none : Option Nat), data := .func { name := Str.ofString "_translate", qualname := Str.ofString "_translate", params := a4, body := FuncBody.stmts b4, scope := s4, globals := (3 : Nat), closure := ([] : List (Str × Nat)), defaults := .none, kwdefaults := .none, builtins := (0 : Nat), annotations := (none : Option Nat), pyModule := .str (Str.ofString "cpy313.fnmatch") (522 : Nat), code := .ref (88 : Nat) } }) ::
    (nat_lit 90, { cls := .type "tuple", dict := (none : Option Nat), data := .seq #[] }) ::
    (nat_lit 92, { cls := .type "tuple", dict := (none : Option Nat), data := .seq #[.str (Str.ofString "inp") (546 : Nat), .str (Str.ofString "STAR") (547 : Nat), .str (Str.ofString "res") (548 : Nat), .str (Str.ofString "add") (549 : Nat), .str (Str.ofString "i") (550 : Nat), .str (Str.ofString "n") (551 : Nat), .str (Str.ofString "fixed") (552 : Nat)] }) ::
    (nat_lit 93, { cls := .type "tuple", dict := (none : Option Nat), data := .seq #[] }) ::
    (nat_lit 95, { cls := .type "code", dict := (none : Option Nat), data := .fields #[.str (Str.ofString "_join_translated_parts") (543 : Nat), .str (Str.ofString "_join_translated_parts") (544 : Nat), .str (Str.ofString "/claim/cut.py") (545 : Nat), .int 97 (0 : Nat), .int 2 (0 : Nat), .int 0 (0 : Nat), .int 0 (0 : Nat), .int 3 (0 : Nat), .ref (90 : Nat), .bool true, .int 276 (0 : Nat), .ref (91 : Nat), .none, .ref (92 : Nat), .ref (93 : Nat), .ref (94 : Nat), .int 553 (0 : Nat), .int 97 (0 : Nat), .str (Str.ofString "/claim/cut.py") (554 : Nat)] }) ::
    (nat_lit 96, { cls := .type "function", dict := (none : Option Nat), data := .func { name := Str.ofString "_join_translated_parts", qualname := Str.ofString "_join_translated_parts", params := a5, body := FuncBody.stmts b5, scope := s5, globals := (3 : Nat), closure := ([] : List (Str × Nat)), defaults := .none, kwdefaults := .none, builtins := (0 : Nat), annotations := (none : Option Nat), pyModule := .str (Str.ofString "cpy313.fnmatch") (522 : Nat), code := .ref (95 : Nat) } }) ::
    (nat_lit 97, { cls := .type "tuple", dict := (none : Option Nat), data := .seq #[] }) ::
    (nat_lit 99, { cls := .type "tuple", dict := (none : Option Nat), data := .seq #[.str (Str.ofString "mode") (561 : Nat)] }) ::
    (nat_lit 100, { cls := .type "tuple", dict := (none : Option Nat), data := .seq #[] }) ::
    (nat_lit 102, { cls := .type "code", dict := (none : Option Nat), data := .fields #[.str (Str.ofString "S_IFMT") (558 : Nat), .str (Str.ofString "S_IFMT") (559 : Nat), .str (Str.ofString "/claim/cut.py") (560 : Nat), .int 125 (0 : Nat), .int 1 (0 : Nat), .int 0 (0 : Nat), .int 0 (0 : Nat), .int 3 (0 : Nat), .ref (97 : Nat), .bool true, .int 276 (0 : Nat), .ref (98 : Nat), .none, .ref (99 : Nat), .ref (100 : Nat), .ref (101 : Nat), .int 562 (0 : Nat), .int 125 (0 : Nat), .str (Str.ofString "/claim/cut.py") (563 : Nat)] }) ::
    (nat_lit 103, { cls := .type "function", dict := (none : Option Nat), data := .func { name := Str.ofString "S_IFMT", qualname := Str.ofString "S_IFMT", params := a6, body := FuncBody.stmts b6, scope := s6, globals := (3 : Nat), closure := ([] : List (Str × Nat)), defaults := .none, kwdefaults := .none, builtins := (0 : Nat), annotations := (none : Option Nat), pyModule := .str (Str.ofString "cpy313.stat") (556 : Nat), code := .ref (102 : Nat) } }) ::
    (nat_lit 104, { cls := .type "tuple", dict := (none : Option Nat), data := .seq #[.int 40960 (575 : Nat), .str (Str.ofString "l") (603 : Nat)] }) ::
    (nat_lit 105, { cls := .type "tuple", dict := (none : Option Nat), data := .seq #[.int 49152 (577 : Nat), .str (Str.ofString "s") (604 : Nat)] }) ::
    (nat_lit 106, { cls := .type "tuple", dict := (none : Option Nat), data := .seq #[.int 32768 (571 : Nat), .str (Str.ofString "-") (605 : Nat)] }) ::
    (nat_lit 107, { cls := .type "tuple", dict := (none : Option Nat), data := .seq #[.int 24576 (569 : Nat), .str (Str.ofString "b") (606 : Nat)] }) ::
    (nat_lit 108, { cls := .type "tuple", dict := (none : Option Nat), data := .seq #[.int 16384 (565 : Nat), .str (Str.ofString "d") (607 : Nat)] }) ::
    (nat_lit 109, { cls := .type "tuple", dict := (none : Option Nat), data := .seq #[.int 8192 (567 : Nat), .str (Str.ofString "c") (608 : Nat)] }) ::
    (nat_lit 110, { cls := .type "tuple", dict := (none : Option Nat), data := .seq #[.int 4096 (573 : Nat), .str (Str.ofString "p") (609 : Nat)] }) ::
    (nat_lit 111, { cls := .type "tuple", dict := (none : Option Nat), data := .seq #[.ref (104 : Nat), .ref (105 : Nat), .ref (106 : Nat), .ref (107 : Nat), .ref (108 : Nat), .ref (109 : Nat), .ref (110 : Nat)] }) ::
    (nat_lit 112, { cls := .type "tuple", dict := (none : Option Nat), data := .seq #[.int 256 (585 : Nat), .str (Str.ofString "r") (610 : Nat)] }) ::
    (nat_lit 113, { cls := .type "tuple", dict := (none : Option Nat), data := .seq #[.ref (112 : Nat)] }) ::
    (nat_lit 114, { cls := .type "tuple", dict := (none : Option Nat), data := .seq #[.int 128 (587 : Nat), .str (Str.ofString "w") (611 : Nat)] }) ::
    (nat_lit 115, { cls := .type "tuple", dict := (none : Option Nat), data := .seq #[.ref (114 : Nat)] }) ::
    (nat_lit 116, { cls := .type "tuple", dict := (none : Option Nat), data := .seq #[.int 2112 (612 : Nat), .str (Str.ofString "s") (613 : Nat)] }) ::
    (nat_lit 117, { cls := .type "tuple", dict := (none : Option Nat), data := .seq #[.int 2048 (579 : Nat), .str (Str.ofString "S") (614 : Nat)] }) ::
    (nat_lit 118, { cls := .type "tuple", dict := (none : Option Nat), data := .seq #[.int 64 (589 : Nat), .str (Str.ofString "x") (615 : Nat)] }) ::
    (nat_lit 119, { cls := .type "tuple", dict := (none : Option Nat), data := .seq #[.ref (116 : Nat), .ref (117 : Nat), .ref (118 : Nat)] }) ::
    (nat_lit 120, { cls := .type "tuple", dict := (none : Option Nat), data := .seq #[.int 32 (591 : Nat), .str (Str.ofString "r") (616 : Nat)] }) ::
    (nat_lit 121, { cls := .type "tuple", dict := (none : Option Nat), data := .seq #[.ref (120 : Nat)] }) ::
    (nat_lit 122, { cls := .type "tuple", dict := (none : Option Nat), data := .seq #[.int 16 (593 : Nat), .str (Str.ofString "w") (617 : Nat)] }) ::
    (nat_lit 123, { cls := .type "tuple", dict := (none : Option Nat), data := .seq #[.ref (122 : Nat)] }) ::
    (nat_lit 124, { cls := .type "tuple", dict := (none : Option Nat), data := .seq #[.int 1032 (618 : Nat), .str (Str.ofString "s") (619 : Nat)] }) ::
    (nat_lit 125, { cls := .type "tuple", dict := (none : Option Nat), data := .seq #[.int 1024 (581 : Nat), .str (Str.ofString "S") (620 : Nat)] }) ::
    (nat_lit 126, { cls := .type "tuple", dict := (none : Option Nat), data := .seq #[.int 8 (595 : Nat), .str (Str.ofString "x") (621 : Nat)] }) ::
    (nat_lit 127, { cls := .type "tuple", dict := (none : Option Nat), data := .seq #[.ref (124 : Nat), .ref (125 : Nat), .ref (126 : Nat)] }) ::
    (nat_lit 128, { cls := .type "tuple", dict := (none : Option Nat), data := .seq #[.int 4 (597 : Nat), .str (Str.ofString "r") (622 : Nat)] }) ::
    (nat_lit 129, { cls := .type "tuple", dict := (none : Option Nat), data := .seq #[.ref (128 : Nat)] }) ::
    (nat_lit 130, { cls := .type "tuple", dict := (none : Option Nat), data := .seq #[.int 2 (599 : Nat), .str (Str.ofString "w") (623 : Nat)] }) ::
    (nat_lit 131, { cls := .type "tuple", dict := (none : Option Nat), data := .seq #[.ref (130 : Nat)] }) ::
    (nat_lit 132, { cls := .type "tuple", dict := (none : Option Nat), data := .seq #[.int 513 (624 : Nat), .str (Str.ofString "t") (625 : Nat)] }) ::
    (nat_lit 133, { cls := .type "tuple", dict := (none : Option Nat), data := .seq #[.int 512 (583 : Nat), .str (Str.ofString "T") (626 : Nat)] }) ::
    (nat_lit 134, { cls := .type "tuple", dict := (none : Option Nat), data := .seq #[.int 1 (601 : Nat), .str (Str.ofString "x") (627 : Nat)] }) ::
    (nat_lit 135, { cls := .type "tuple", dict := (none : Option Nat), data := .seq #[.ref (132 : Nat), .ref (133 : Nat), .ref (134 : Nat)] }) ::
    (nat_lit 136, { cls := .type "tuple", dict := (none : Option Nat), data := .seq #[.ref (111 : Nat), .ref (113 : Nat), .ref (115 : Nat), .ref (119 : Nat), .ref (121 : Nat), .ref (123 : Nat), .ref (127 : Nat), .ref (129 : Nat), .ref (131 : Nat), .ref (135 : Nat)] }) ::
    (nat_lit 137, { cls := .type "tuple", dict := (none : Option Nat), data := .seq #[] }) ::
    (nat_lit 139, { cls := .type "tuple", dict := (none : Option Nat), data := .seq #[.str (Str.ofString "mode") (632 : Nat), .str (Str.ofString "perm") (633 : Nat), .str (Str.ofString "index") (634 : Nat), .str (Str.ofString "table") (635 : Nat), .str (Str.ofString "bit") (636 : Nat), .str (Str.ofString "char") (637 : Nat)] }) ::
    (nat_lit 140, { cls := .type "tuple", dict := (none : Option Nat), data := .seq #[] }) ::
    (nat_lit 142, { cls := .type "code", dict := (none : Option Nat), data := .fields #[.str (Str.ofString "filemode") (629 : Nat), .str (Str.ofString "filemode") (630 : Nat), .str (Str.ofString "/claim/cut.py") (631 : Nat), .int 147 (0 : Nat), .int 1 (0 : Nat), .int 0 (0 : Nat), .int 0 (0 : Nat), .int 3 (0 : Nat), .ref (137 : Nat), .bool true, .int 276 (0 : Nat), .ref (138 : Nat), .none, .ref (139 : Nat), .ref (140 : Nat), .ref (141 : Nat), .int 638 (0 : Nat), .int 147 (0 : Nat), .str (Str.ofString "/claim/cut.py") (639 : Nat)] }) ::
    (nat_lit 143, { cls := .type "function", dict := (none : Option Nat), data := .func { name := Str.ofString "filemode", qualname := Str.ofString "filemode", params := a7, body := FuncBody.stmts b7, scope := s7, globals := (3 : Nat), closure := ([] : List (Str × Nat)), defaults := .none, kwdefaults := .none, builtins := (0 : Nat), annotations := (none : Option Nat), pyModule := .str (Str.ofString "cpy313.stat") (556 : Nat), code := .ref (142 : Nat) } }) ::
    (nat_lit 144, { cls := .type "tuple", dict := (none : Option Nat), data := .seq #[] }) ::
    (nat_lit 146, { cls := .type "tuple", dict := (none : Option Nat), data := .seq #[.str (Str.ofString "kind") (646 : Nat), .str (Str.ofString "upper") (647 : Nat), .str (Str.ofString "lower") (648 : Nat)] }) ::
    (nat_lit 147, { cls := .type "tuple", dict := (none : Option Nat), data := .seq #[] }) ::
    (nat_lit 149, { cls := .type "code", dict := (none : Option Nat), data := .fields #[.str (Str.ofString "_law_number") (643 : Nat), .str (Str.ofString "_law_number") (644 : Nat), .str (Str.ofString "/claim/cut.py") (645 : Nat), .int 165 (0 : Nat), .int 3 (0 : Nat), .int 0 (0 : Nat), .int 0 (0 : Nat), .int 3 (0 : Nat), .ref (144 : Nat), .bool true, .int 276 (0 : Nat), .ref (145 : Nat), .none, .ref (146 : Nat), .ref (147 : Nat), .ref (148 : Nat), .int 649 (0 : Nat), .int 165 (0 : Nat), .str (Str.ofString "/claim/cut.py") (650 : Nat)] }) ::
    (nat_lit 150, { cls := .type "function", dict := (none : Option Nat), data := .func { name := Str.ofString "_law_number", qualname := Str.ofString "_law_number", params := a8, body := FuncBody.stmts b8, scope := s8, globals := (3 : Nat), closure := ([] : List (Str × Nat)), defaults := .none, kwdefaults := .none, builtins := (0 : Nat), annotations := (none : Option Nat), pyModule := .str (Str.ofString "law_in0252_01") (641 : Nat), code := .ref (149 : Nat) } }) ::
    (nat_lit 151, { cls := .type "tuple", dict := (none : Option Nat), data := .seq #[] }) ::
    (nat_lit 153, { cls := .type "tuple", dict := (none : Option Nat), data := .seq #[.str (Str.ofString "row") (655 : Nat), .str (Str.ofString "number") (656 : Nat), .str (Str.ofString "k") (657 : Nat), .str (Str.ofString "place") (658 : Nat)] }) ::
    (nat_lit 154, { cls := .type "tuple", dict := (none : Option Nat), data := .seq #[] }) ::
    (nat_lit 156, { cls := .type "code", dict := (none : Option Nat), data := .fields #[.str (Str.ofString "_law_back") (652 : Nat), .str (Str.ofString "_law_back") (653 : Nat), .str (Str.ofString "/claim/cut.py") (654 : Nat), .int 167 (0 : Nat), .int 1 (0 : Nat), .int 0 (0 : Nat), .int 0 (0 : Nat), .int 3 (0 : Nat), .ref (151 : Nat), .bool true, .int 276 (0 : Nat), .ref (152 : Nat), .none, .ref (153 : Nat), .ref (154 : Nat), .ref (155 : Nat), .int 659 (0 : Nat), .int 167 (0 : Nat), .str (Str.ofString "/claim/cut.py") (660 : Nat)] }) ::
    (nat_lit 157, { cls := .type "function", dict := (none : Option Nat), data := .func { name := Str.ofString "_law_back", qualname := Str.ofString "_law_back", params := a9, body := FuncBody.stmts b9, scope := s9, globals := (3 : Nat), closure := ([] : List (Str × Nat)), defaults := .none, kwdefaults := .none, builtins := (0 : Nat), annotations := (none : Option Nat), pyModule := .str (Str.ofString "law_in0252_01") (641 : Nat), code := .ref (156 : Nat) } }) ::
    (nat_lit 158, { cls := .type "tuple", dict := (none : Option Nat), data := .seq #[] }) ::
    (nat_lit 161, { cls := .type "code", dict := (none : Option Nat), data := .fields #[.str (Str.ofString "_law_signs") (662 : Nat), .str (Str.ofString "_law_signs") (663 : Nat), .str (Str.ofString "/claim/cut.py") (664 : Nat), .int 177 (0 : Nat), .int 3 (0 : Nat), .int 0 (0 : Nat), .int 0 (0 : Nat), .int 3 (0 : Nat), .ref (158 : Nat), .bool true, .int 276 (0 : Nat), .ref (159 : Nat), .none, .none, .none, .ref (160 : Nat), .int 665 (0 : Nat), .int 177 (0 : Nat), .str (Str.ofString "/claim/cut.py") (666 : Nat)] }) ::
    (nat_lit 162, { cls := .type "function", dict := (none : Option Nat), data := .func { name := Str.ofString "_law_signs", qualname := Str.ofString "_law_signs", params := a10, body := FuncBody.stmts b10, scope := s10, globals := (3 : Nat), closure := ([] : List (Str × Nat)), defaults := .none, kwdefaults := .none, builtins := (0 : Nat), annotations := (none : Option Nat), pyModule := .str (Str.ofString "law_in0252_01") (641 : Nat), code := .ref (161 : Nat) } }) ::
    (nat_lit 163, { cls := .type "tuple", dict := (none : Option Nat), data := .seq #[] }) ::
    (nat_lit 165, { cls := .type "tuple", dict := (none : Option Nat), data := .seq #[.str (Str.ofString "signs") (671 : Nat), .str (Str.ofString "text") (672 : Nat), .str (Str.ofString "bare") (673 : Nat)] }) ::
    (nat_lit 166, { cls := .type "tuple", dict := (none : Option Nat), data := .seq #[] }) ::
    (nat_lit 168, { cls := .type "code", dict := (none : Option Nat), data := .fields #[.str (Str.ofString "_law_pattern") (668 : Nat), .str (Str.ofString "_law_pattern") (669 : Nat), .str (Str.ofString "/claim/cut.py") (670 : Nat), .int 179 (0 : Nat), .int 1 (0 : Nat), .int 0 (0 : Nat), .int 0 (0 : Nat), .int 3 (0 : Nat), .ref (163 : Nat), .bool true, .int 276 (0 : Nat), .ref (164 : Nat), .none, .ref (165 : Nat), .ref (166 : Nat), .ref (167 : Nat), .int 674 (0 : Nat), .int 179 (0 : Nat), .str (Str.ofString "/claim/cut.py") (675 : Nat)] }) ::
    (nat_lit 169, { cls := .type "function", dict := (none : Option Nat), data := .func { name := Str.ofString "_law_pattern", qualname := Str.ofString "_law_pattern", params := a11, body := FuncBody.stmts b11, scope := s11, globals := (3 : Nat), closure := ([] : List (Str × Nat)), defaults := .none, kwdefaults := .none, builtins := (0 : Nat), annotations := (none : Option Nat), pyModule := .str (Str.ofString "law_in0252_01") (641 : Nat), code := .ref (168 : Nat) } }) ::
    (nat_lit 170, { cls := .type "tuple", dict := (none : Option Nat), data := .seq #[] }) ::
    (nat_lit 172, { cls := .type "tuple", dict := (none : Option Nat), data := .seq #[.str (Str.ofString "text") (680 : Nat), .str (Str.ofString "body") (681 : Nat), .str (Str.ofString "signs") (682 : Nat), .str (Str.ofString "k") (683 : Nat)] }) ::
    (nat_lit 173, { cls := .type "tuple", dict := (none : Option Nat), data := .seq #[] }) ::
    (nat_lit 175, { cls := .type "code", dict := (none : Option Nat), data := .fields #[.str (Str.ofString "_law_read") (677 : Nat), .str (Str.ofString "_law_read") (678 : Nat), .str (Str.ofString "/claim/cut.py") (679 : Nat), .int 183 (0 : Nat), .int 1 (0 : Nat), .int 0 (0 : Nat), .int 0 (0 : Nat), .int 3 (0 : Nat), .ref (170 : Nat), .bool true, .int 276 (0 : Nat), .ref (171 : Nat), .none, .ref (172 : Nat), .ref (173 : Nat), .ref (174 : Nat), .int 684 (0 : Nat), .int 183 (0 : Nat), .str (Str.ofString "/claim/cut.py") (685 : Nat)] }) ::
    (nat_lit 176, { cls := .type "function", dict := (none : Option Nat), data := .func { name := Str.ofString "_law_read", qualname := Str.ofString "_law_read", params := a12, body := FuncBody.stmts b12, scope := s12, globals := (3 : Nat), closure := ([] : List (Str × Nat)), defaults := .none, kwdefaults := .none, builtins := (0 : Nat), annotations := (none : Option Nat), pyModule := .str (Str.ofString "law_in0252_01") (641 : Nat), code := .ref (175 : Nat) } }) ::
    (nat_lit 177, { cls := .type "tuple", dict := (none : Option Nat), data := .seq #[] }) ::
    (nat_lit 180, { cls := .type "code", dict := (none : Option Nat), data := .fields #[.str (Str.ofString "_law_over") (687 : Nat), .str (Str.ofString "_law_over") (688 : Nat), .str (Str.ofString "/claim/cut.py") (689 : Nat), .int 201 (0 : Nat), .int 3 (0 : Nat), .int 0 (0 : Nat), .int 0 (0 : Nat), .int 3 (0 : Nat), .ref (177 : Nat), .bool true, .int 276 (0 : Nat), .ref (178 : Nat), .none, .none, .none, .ref (179 : Nat), .int 690 (0 : Nat), .int 201 (0 : Nat), .str (Str.ofString "/claim/cut.py") (691 : Nat)] }) ::
    (nat_lit 181, { cls := .type "function", dict := (none : Option Nat), data := .func { name := Str.ofString "_law_over", qualname := Str.ofString "_law_over", params := a13, body := FuncBody.stmts b13, scope := s13, globals := (3 : Nat), closure := ([] : List (Str × Nat)), defaults := .none, kwdefaults := .none, builtins := (0 : Nat), annotations := (none : Option Nat), pyModule := .str (Str.ofString "law_in0252_01") (641 : Nat), code := .ref (180 : Nat) } }) ::
    (nat_lit 182, { cls := .type "tuple", dict := (none : Option Nat), data := .seq #[] }) ::
    (nat_lit 185, { cls := .type "code", dict := (none : Option Nat), data := .fields #[.str (Str.ofString "_law_takes") (693 : Nat), .str (Str.ofString "_law_takes") (694 : Nat), .str (Str.ofString "/claim/cut.py") (695 : Nat), .int 203 (0 : Nat), .int 2 (0 : Nat), .int 0 (0 : Nat), .int 0 (0 : Nat), .int 3 (0 : Nat), .ref (182 : Nat), .bool true, .int 276 (0 : Nat), .ref (183 : Nat), .none, .none, .none, .ref (184 : Nat), .int 696 (0 : Nat), .int 203 (0 : Nat), .str (Str.ofString "/claim/cut.py") (697 : Nat)] }) ::
    (nat_lit 186, { cls := .type "function", dict := (none : Option Nat), data := .func { name := Str.ofString "_law_takes", qualname := Str.ofString "_law_takes", params := a14, body := FuncBody.stmts b14, scope := s14, globals := (3 : Nat), closure := ([] : List (Str × Nat)), defaults := .none, kwdefaults := .none, builtins := (0 : Nat), annotations := (none : Option Nat), pyModule := .str (Str.ofString "law_in0252_01") (641 : Nat), code := .ref (185 : Nat) } }) ::
    (nat_lit 187, { cls := .type "tuple", dict := (none : Option Nat), data := .seq #[] }) ::
    (nat_lit 190, { cls := .type "code", dict := (none : Option Nat), data := .fields #[.str (Str.ofString "_law_third") (699 : Nat), .str (Str.ofString "_law_third") (700 : Nat), .str (Str.ofString "/claim/cut.py") (701 : Nat), .int 205 (0 : Nat), .int 3 (0 : Nat), .int 0 (0 : Nat), .int 0 (0 : Nat), .int 3 (0 : Nat), .ref (187 : Nat), .bool true, .int 276 (0 : Nat), .ref (188 : Nat), .none, .none, .none, .ref (189 : Nat), .int 702 (0 : Nat), .int 205 (0 : Nat), .str (Str.ofString "/claim/cut.py") (703 : Nat)] }) ::
    (nat_lit 191, { cls := .type "function", dict := (none : Option Nat), data := .func { name := Str.ofString "_law_third", qualname := Str.ofString "_law_third", params := a15, body := FuncBody.stmts b15, scope := s15, globals := (3 : Nat), closure := ([] : List (Str × Nat)), defaults := .none, kwdefaults := .none, builtins := (0 : Nat), annotations := (none : Option Nat), pyModule := .str (Str.ofString "law_in0252_01") (641 : Nat), code := .ref (190 : Nat) } }) ::
    (nat_lit 192, { cls := .type "tuple", dict := (none : Option Nat), data := .seq #[] }) ::
    (nat_lit 195, { cls := .type "code", dict := (none : Option Nat), data := .fields #[.str (Str.ofString "law") (705 : Nat), .str (Str.ofString "law") (706 : Nat), .str (Str.ofString "/claim/cut.py") (707 : Nat), .int 207 (0 : Nat), .int 1 (0 : Nat), .int 0 (0 : Nat), .int 0 (0 : Nat), .int 3 (0 : Nat), .ref (192 : Nat), .bool true, .int 276 (0 : Nat), .ref (193 : Nat), .none, .none, .none, .ref (194 : Nat), .int 708 (0 : Nat), .int 207 (0 : Nat), .str (Str.ofString "/claim/cut.py") (709 : Nat)] }) ::
    (nat_lit 196, { cls := .type "function", dict := (none : Option Nat), data := .func { name := Str.ofString "law", qualname := Str.ofString "law", params := a16, body := FuncBody.stmts b16, scope := s16, globals := (3 : Nat), closure := ([] : List (Str × Nat)), defaults := .none, kwdefaults := .none, builtins := (0 : Nat), annotations := (none : Option Nat), pyModule := .str (Str.ofString "law_in0252_01") (641 : Nat), code := .ref (195 : Nat) } }) :: [] : List (Nat × Obj))
end Mine

-- B0
namespace Mine
theorem topOff_B0 : True := by
  w_top off
  trivial
end Mine
namespace Mine
open PySem PySem.W PyProof.Rows PySem.Calls
abbrev PG : Program := PySem.Challenge.rw_in0252_01.row.prog


/-- what every heap that the law meets holds -/
structure Gd (w : World) (p : Program) (loose : List Str) (mean : ExcName → Option Value) (mg mb : Str → Option Value) (h : Heap) : Prop where
  X : (KK w.params).In h
  T : Top p loose mean mg mb h

structure Rm (A : Around) (n : Nat) : Prop where
  hh : A.handled = none
  hd : A.depth ≤ 500 - 10 * n
  hu : A.units ≤ 1000 - 100 * n

/-- the heap keeps what it had -/
abbrev Kp (h h' : Heap) : Prop := ∀ b o, h.get? b = some o → h'.get? b = some o

theorem enter {w : World} {p : Program} {loose : List Str} {mean : ExcName → Option Value} {mg mb : Str → Option Value} {A : Around} {s : Shared} {R : Result → Shared → Prop}
    {name qual : Str} {params : Arguments} {body : List Stmt} {scope : Scope} {dV kV doc pm cdv ct oc : Value} {an od : Option Addr} {osl : Array (Option Value)} {f : Addr} {args : Args} {binds : List (Str × Value)}
    (X : (KK w.params).In s.heap) (T : Top p loose mean mg mb s.heap) (hroom : A.depth < recursionLimit)
    (ho : (KK w.params).lookup f = some ⟨oc, od, .func (fnOf name qual params body scope dV kV doc pm an cdv ct), osl⟩) (hcd : codeIn (KK w.params) cdv qual = true)
    (hbind : BindsTo s (fnOf name qual params body scope dV kV doc pm an cdv ct) args binds) (hloc : ∀ y ∈ binds, scope.names.lookup y.1 = some .local)
    (h : ∀ L h₁, Fr s.heap L h₁ (fun y => binds.reverse.lookup y) → News s.heap L h₁ [] →
      wpAny (model PG w) (A.deeper (envOf qual scope L f cdv)) (execs body (envOf qual scope L f cdv))
        (fun fl s' => R (.ok (.ret (match fl with | .ret v => v | _ => .none))) s') (fun _ _ => False) { s with heap := h₁, toks := s.toks + binds.length })
    (hco : scope.isCoroutine = false) (hgen : scope.isGenerator = false) (hk : scope.kind = .function)
    (hcell : ∀ x ∈ scope.names, x.2 ≠ .cell) : codeAny (model PG w) A (.call (.ref f) args) R s := by
  refine codeAny_call_def (fd := fnX name qual params body scope [] dV kV doc pm an cdv ct) (body := body) (binds := binds) hroom (X _ _ ho) rfl T.nolimit (codeRec_of X hcd) rfl hbind hcell hloc (fun h₁ hns hk₁ => ?_) hco hgen hk
  exact wpAny_mono (h _ h₁ ⟨hns, hk₁, Nat.le_refl _⟩ News.nil) (fun _ _ x => x) fun _ _ x => x.elim
end Mine
namespace Mine
open PySem PySem.W PyProof.Rows PySem.Calls
theorem fill {G : Prop} (h : (PySem.Challenge.rw_in0252_01 = PySem.Challenge.rw_in0252_01 ∧ KK = KK) → G) : G := h ⟨rfl, rfl⟩
end Mine
namespace Mine
open PySem PySem.W PyProof.Rows PySem.Calls
section
variable {s : Shared} {R : Result → Shared → Prop} {h' : Heap} {tk' : Nat} {t : Tok}
theorem finI {x y : Int} (ret : ∀ t h' tk', Kp s.heap h' → R (.ok (.ret (.int x t))) { s with heap := h', toks := tk' }) (k : Kp s.heap h') (e : y = x) : R (.ok (.ret (.int y t))) { s with heap := h', toks := tk' } := by
  subst e; exact ret _ _ _ k
theorem finS {x y : Str} (ret : ∀ t h' tk', Kp s.heap h' → R (.ok (.ret (.str x t))) { s with heap := h', toks := tk' }) (k : Kp s.heap h') (e : y = x) : R (.ok (.ret (.str y t))) { s with heap := h', toks := tk' } := by
  subst e; exact ret _ _ _ k
theorem finB {x y : Bool} (ret : ∀ h' tk', Kp s.heap h' → R (.ok (.ret (.bool x))) { s with heap := h', toks := tk' }) (k : Kp s.heap h') (e : y = x) : R (.ok (.ret (.bool y))) { s with heap := h', toks := tk' } := by
  subst e; exact ret _ _ k
end
end Mine
namespace Mine
open PySem PySem.W PyProof.Rows PySem.Calls
theorem Rm.deeper {A : Around} {n : Nat} {env : Env} (h : Rm A (n + 1)) (hn : n ≤ 8 := by decide) : Rm (A.deeper env) n := by
  obtain ⟨a, b, c⟩ := h
  refine ⟨a, ?_, ?_⟩
  · show A.depth + 1 ≤ _; omega
  · show A.units + 3 ≤ _; omega
end Mine

-- R0
namespace Mine
theorem topOff_R0 : True := by
  w_top off
  trivial
end Mine
namespace Mine
open PySem PySem.W PyProof.Rows PySem.Calls PySem.Spec
section
variable {prog : Program} {w : World} {A : Around} {E : Value → Shared → Prop} {s : Shared} {env : Env}

/-- what a comprehension's turn leaves behind -/
def CAft (C : Addr) (Xs : List Addr) (s₂ : Shared) (h₃ : Heap) (Jn : Heap → Prop) (s₅ : Shared) : Prop :=
  ∃ h₅ tk₅ m₅, s₅ = { s₂ with heap := h₅, toks := tk₅ } ∧ (∀ b o, b ≠ C → b ∉ Xs → h₃.get? b = some o → h₅.get? b = some o) ∧ h₅.Ns C m₅ ∧ Jn h₅

/-- a comprehension's turn, from the item on -/
def CTurn (prog : Program) (w : World) (A : Around) (cenv : Env) (target elt : Expr) (ifs : List Expr) (C : Addr) (Xs : List Addr) (s₂ : Shared) (h₃ : Heap) (tk₃ : Nat) (v : Value) (Jn : Heap → Prop) (Jy : Value → Heap → Prop) : Prop :=
  wpAny (model prog w) A (assign target cenv v) (fun _ s₄ =>
    wpAny (model prog w) A (forIn ifs true fun c r => if r = true then do let ok ← isTrue c cenv (eval c cenv); pure (ForInStep.yield ok) else pure (ForInStep.yield r)) (fun ok s₅ =>
      if ok = true then wpAny (model prog w) A (eval elt cenv) (fun y s₆ => CAft C Xs s₂ h₃ (Jy y) s₆) (fun _ _ => False) s₅ else CAft C Xs s₂ h₃ Jn s₅) (fun _ _ => False) s₄) (fun _ _ => False) { s₂ with heap := h₃, toks := tk₃ }

theorem comp_loop {target elt iter : Expr} {ifs : List Expr} {scope : Scope} {pos : Pos} {cenv : Env} {I D C : Addr} {fp wr : List Addr} {n : Nat} {P Md : Nat → Value → Heap → Prop} {St : Nat → Heap → Prop} {R : Result → Shared → Prop} {s₂ : Shared} {m : Str → Option Value} {H : Heap} {tk : Nat}
    (W : KTurns prog w A target I fp wr n P Md St) (hn : n ≤ sizeLine) (J : Nat → List Value → Heap → Prop) (Xs : List Addr) (hXs : ∀ b ∈ Xs, s₂.heap.objs.size ≤ b ∧ b ≠ D)
    (hC : s₂.heap.objs.size ≤ C) (hD : s₂.heap.objs.size ≤ D) (hDC : D ≠ C) (hfp : ∀ b ∈ fp, b < s₂.heap.objs.size)
    (hst : St 0 H) (hacc : H.PlainList D #[]) (hns : H.Ns C m) (hkp : ∀ b o, s₂.heap.get? b = some o → H.get? b = some o)
    (hJ : J 0 [] H) (stab : ∀ i ys h h', (∀ b o, b ∉ wr → b ≠ C → b ≠ D → h.get? b = some o → h'.get? b = some o) → J i ys h → J i ys h')
    (turn : ∀ i ys v h₃ tk₃ m₃, i < n → P i v h₃ → St (i + 1) h₃ → J i ys h₃ → h₃.Ns C m₃ → h₃.PlainList D (List.toArray ys) → (∀ b o, b ∉ wr → s₂.heap.get? b = some o → h₃.get? b = some o) →
      CTurn prog w A cenv target elt ifs C Xs s₂ h₃ tk₃ v (fun h => J (i + 1) ys h) (fun y h => J (i + 1) (ys ++ [y]) h))
    (hR : ∀ h' tk' m' ys, h'.Ns C m' → h'.PlainList D ys.toArray → J n ys h' → (∀ b o, b ∉ wr → s₂.heap.get? b = some o → h'.get? b = some o) → R (.ok .next) { s₂ with heap := h', toks := tk' }) :
    codeAny (model prog w) A (.compLoop (.ListComp elt [⟨target, iter, ifs, 0⟩] scope pos) 0 (.ref I) (.ref D) cenv) R { s₂ with heap := H, toks := tk } := by
  have hDw : D ∉ wr := fun h => Nat.lt_irrefl _ (Nat.lt_of_lt_of_le (hfp _ (W.sub _ h)) hD)
  have hCw : C ∉ wr := fun h => Nat.lt_irrefl _ (Nat.lt_of_lt_of_le (hfp _ (W.sub _ h)) hC)
  have oldX : ∀ b, b < s₂.heap.objs.size → b ∉ Xs := fun b hb hm => Nat.lt_irrefl _ (Nat.lt_of_lt_of_le hb (hXs b hm).1)
  have hDX : D ∉ Xs := fun hm => (hXs D hm).2 rfl
  have old : ∀ b o, s₂.heap.get? b = some o → b ≠ C ∧ b ≠ D := fun b o e => ⟨Nat.ne_of_lt (Nat.lt_of_lt_of_le (Heap.lt_size e) hC), Nat.ne_of_lt (Nat.lt_of_lt_of_le (Heap.lt_size e) hD)⟩
  refine codeAny_loop rfl (fun k s' => ∃ h tk₁ m₁ ys i, s' = { s₂ with heap := h, toks := tk₁ } ∧ St i h ∧ h.PlainList D (List.toArray ys) ∧ h.Ns C m₁ ∧ (∀ b o, b ∉ wr → s₂.heap.get? b = some o → h.get? b = some o) ∧ J i ys h ∧ ys.length ≤ i ∧ i ≤ n ∧ k = n + 1 - i) ?_ (n + 1)
    ⟨H, tk, m, [], 0, rfl, hst, hacc, hns, fun b o _ e => hkp b o e, hJ, Nat.le_refl _, Nat.zero_le _, rfl⟩
  rintro k s' ⟨h, tk₁, m₁, ys, i, rfl, hst', hacc', hns', hkp', hJ', hys, hi, rfl⟩
  show wpAny _ A ((compTurn (.ListComp elt [⟨target, iter, ifs, 0⟩] scope pos) 0 (.ref I) (.ref D) cenv).onRaise (fun x => do noteFrame x cenv; theTreesLotGoes x)) _ _ _
  refine wpAny_noted ?_
  rw [compTurn_list]
  refine wpAny_bind (wpAny_standAt (wpAny_bind ?_))
  by_cases hlt : i < n
  · refine W.item i _ _ _ hlt hst' fun v h₁ tk₂ hMd hk₁ => ?_
    refine wpAny_bind (W.go i v _ _ _ hMd fun h₃ hP hst₃ hk₃ => ?_)
    have hk13 : ∀ b o, b ∉ wr → h.get? b = some o → h₃.get? b = some o := fun b o hb e => hk₃ b o hb (hk₁ b o hb e)
    have T := turn i ys v h₃ tk₂ m₁ hlt hP hst₃ (stab i ys h h₃ (fun b o hb _ _ e => hk13 b o hb e) hJ') (hns'.at' fun o e => hk13 _ o hCw e) (hacc'.at fun o e => hk13 D o hDw e) (fun b o hb e => hk13 b o hb (hkp' b o hb e))
    have st' : ∀ h₅ : Heap, (∀ b o, b ≠ C → b ∉ Xs → h₃.get? b = some o → h₅.get? b = some o) → St (i + 1) h₅ := fun h₅ hk₅ =>
      W.frame _ _ _ hst₃ fun b hb o e => hk₅ b o (Nat.ne_of_lt (Nat.lt_of_lt_of_le (hfp b hb) hC)) (oldX b (hfp b hb)) e
    have acc' : ∀ h₅ : Heap, (∀ b o, b ≠ C → b ∉ Xs → h₃.get? b = some o → h₅.get? b = some o) → h₅.PlainList D (List.toArray ys) := fun h₅ hk₅ => hacc'.at fun o e => hk₅ D o hDC hDX (hk13 D o hDw e)
    have kp' : ∀ h₅ : Heap, (∀ b o, b ≠ C → b ∉ Xs → h₃.get? b = some o → h₅.get? b = some o) → ∀ b o, b ∉ wr → s₂.heap.get? b = some o → h₅.get? b = some o := fun h₅ hk₅ b o hb e => hk₅ b o (old b o e).1 (oldX b (Heap.lt_size e)) (hk13 b o hb (hkp' b o hb e))
    refine wpAny_bind (wpAny_mono T (fun _ s₄ h₄ => wpAny_bind (wpAny_mono h₄ (fun ok s₅ h₅ => ?_) fun _ _ x => x.elim)) fun _ _ x => x.elim)
    cases ok with
    | false =>
      obtain ⟨h₅, tk₅, m₅, rfl, hk₅, hn₅, hJ₅⟩ := h₅
      exact wpAny_pure ⟨rfl, n + 1 - (i + 1), by omega, h₅, tk₅, m₅, ys, i + 1, rfl, st' h₅ hk₅, acc' h₅ hk₅, hn₅, kp' h₅ hk₅, hJ₅, by omega, hlt, rfl⟩
    | true =>
      refine wpAny_bind (wpAny_bind (wpAny_mono h₅ (fun y s₆ h₆ => ?_) fun _ _ x => x.elim))
      obtain ⟨h₅, tk₅, m₅, rfl, hk₅, hn₅, hJ₅⟩ := h₆
      refine wpAny_bind (wpAny_list_append_plain (hsz := by rw [List.size_toArray]; omega) (acc' h₅ hk₅) fun h₇ hl₇ hs₇ => ?_)
      refine wpAny_pure (wpAny_pure ⟨rfl, n + 1 - (i + 1), by omega, h₇, tk₅, m₅, ys ++ [y], i + 1, rfl, ?_, ?_, hn₅.sameBut hs₇ (Ne.symm hDC), ?_, ?_, ?_, hlt, rfl⟩)
      · exact W.frame _ _ _ (st' h₅ hk₅) fun b hb o e => hs₇.extBut b o (Nat.ne_of_lt (Nat.lt_of_lt_of_le (hfp b hb) hD)) e
      · simpa using hl₇
      · exact fun b o hb e => hs₇.extBut b o (old b o e).2 (kp' h₅ hk₅ b o hb e)
      · exact stab _ _ _ _ (fun b o _ _ hb e => hs₇.extBut b o hb e) hJ₅
      · rw [List.length_append, List.length_singleton]; omega
  · have hin : i = n := by omega
    subst hin
    refine W.done _ _ _ hst' fun h₁ tk₂ hk₁ => ?_
    exact wpAny_pure (hR h₁ tk₂ m₁ ys (hns'.at' fun o e => hk₁ _ o hCw e) (hacc'.at fun o e => hk₁ D o hDw e) (stab i ys h h₁ (fun b o hb _ _ e => hk₁ b o hb e) hJ') (fun b o hb e => hk₁ b o hb (hkp' b o hb e)))

/-- what a comprehension asks behind its iterator -/
def CompAtC (prog : Program) (w : World) (A : Around) (env : Env) (target elt : Expr) (ifs : List Expr) (scope : Scope) (cl : List (Str × Addr)) (Q : Addr → Value → Shared → Prop) (it : Value) (s₂ : Shared) : Prop :=
  ∃ (I : Addr) (fp wr : List Addr) (n : Nat) (P Md : Nat → Value → Heap → Prop) (St : Nat → Heap → Prop),
    it = .ref I ∧ KTurns prog w A target I fp wr n P Md St ∧ (∀ (s : Shared) (Q : Value → Shared → Prop) (E : Value → Shared → Prop), St 0 s.heap → Q (.ref I) s → wpAny (model prog w) A (pyIter (.ref I)) Q E s) ∧
    n ≤ sizeLine ∧ (∀ b ∈ fp, b < s₂.heap.objs.size) ∧ St 0 s₂.heap ∧
    ∀ C D, s₂.heap.objs.size ≤ C → s₂.heap.objs.size ≤ D → D ≠ C → ∃ J : Nat → List Value → Heap → Prop,
      (∀ h, (∀ b o, s₂.heap.get? b = some o → h.get? b = some o) → J 0 [] h) ∧
      (∀ i ys h h', (∀ b o, b ∉ wr → b ≠ C → b ≠ D → h.get? b = some o → h'.get? b = some o) → J i ys h → J i ys h') ∧
      (∀ i ys v h₃ tk₃ m₃, i < n → P i v h₃ → St (i + 1) h₃ → J i ys h₃ → h₃.Ns C m₃ → h₃.PlainList D (List.toArray ys) → (∀ b o, b ∉ wr → s₂.heap.get? b = some o → h₃.get? b = some o) →
        CTurn prog w A (compEnvC scope cl C env) target elt ifs C [] s₂ h₃ tk₃ v (fun h => J (i + 1) ys h) (fun y h => J (i + 1) (ys ++ [y]) h)) ∧
      (∀ h' tk' ys, h'.PlainList D (List.toArray ys) → J n ys h' → (∀ b o, b ∉ wr → s₂.heap.get? b = some o → h'.get? b = some o) → Q C (.ref D) { s₂ with heap := h', toks := tk' })

abbrev CompAt (prog : Program) (w : World) (A : Around) (env : Env) (target elt : Expr) (ifs : List Expr) (scope : Scope) (cl : List (Str × Addr)) (Q : Value → Shared → Prop) (it : Value) (s₂ : Shared) : Prop :=
  CompAtC prog w A env target elt ifs scope cl (fun _ => Q) it s₂

theorem comp_eval {target elt iter : Expr} {ifs : List Expr} {scope : Scope} {pos : Pos} {cl : List (Str × Addr)} {Q : Value → Shared → Prop}
    (hclos : closureFor scope env = pure cl) (hcell : ∀ y ∈ scope.names, y.2 ≠ .cell) (hkind : scope.kind = .function)
    (hnames : ∀ y ∈ scope.names, y.2 = .local → scope.names.lookup y.1 = some .local)
    (hs : ∀ x, foldedSetIterable iter env x = pure x)
    (h : wpAny (model prog w) A (eval iter env) (fun xv s₁ => wpAny (model prog w) A (pyIter xv) (fun it s₂ => CompAt prog w A env target elt ifs scope cl Q it s₂) E s₁) E s) :
    wpAny (model prog w) A (eval (.ListComp elt [⟨target, iter, ifs, 0⟩] scope pos) env) Q E s := by
  rw [eval_ListComp]
  refine wpAny_comprehension_free (use := none) rfl hs hclos hkind hnames (wpAny_mono h (fun xv s₁ h₁ => wpAny_mono h₁ (fun it s₂ h₂ => ?_) fun _ _ e => e) fun _ _ e => e)
  obtain ⟨I, fp, wr, n, P, Md, St, rfl, W, self, hsz, hfp, hst, hJ⟩ := h₂
  refine wpAny_newObj_type (wpAny_newFunctionEnv hcell (by intro y hy; simp at hy) (fun h₁ hns₁ hsb₁ => ?_) hkind)
  dsimp only at hns₁ hsb₁ ⊢
  generalize hH2 : s₂.heap.push { cls := .type "list", dict := none, data := .seq ([] : List Value).toArray } = H2 at hns₁ hsb₁ ⊢
  have hC : H2.objs.size = s₂.heap.objs.size + 1 := by rw [← hH2, Heap.size_push]
  have hDC : s₂.heap.objs.size ≠ H2.objs.size := by rw [hC]; exact Nat.ne_of_lt (Nat.lt_succ_self _)
  have hCle : s₂.heap.objs.size ≤ H2.objs.size := by rw [hC]; exact Nat.le_succ _
  have old : ∀ b o, s₂.heap.get? b = some o → h₁.get? b = some o := fun b o e => hsb₁.extBut b o (by rw [hC]; exact Nat.ne_of_lt (Nat.lt_succ_of_lt (Heap.lt_size e))) (Heap.get?_push_of_some _ (hH2 ▸ Heap.get?_push_of_some _ e))
  have hacc : h₁.PlainList s₂.heap.objs.size #[] := by
    exact ⟨_, hsb₁.extBut _ _ hDC (Heap.get?_push_of_some _ (hH2 ▸ Heap.get?_push_size _ rfl))⟩
  obtain ⟨J, hJ0, stab, turn, hQ⟩ := hJ H2.objs.size s₂.heap.objs.size hCle (Nat.le_refl _) hDC
  have loop : ∀ s₃ : Shared, s₃ = { s₂ with heap := h₁, toks := s₂.toks + ([] : List (Str × Value)).length } →
      codeAny (model prog w) A (.compLoop (.ListComp elt [⟨target, iter, ifs, 0⟩] scope pos) 0 (.ref I) (.ref s₂.heap.objs.size) (compEnvC scope cl H2.objs.size env))
        (compPost (model prog w) A E none Q (.ref s₂.heap.objs.size) H2.objs.size) s₃ := by
    rintro s₃ rfl
    refine comp_loop W hsz J [] (fun _ h => nomatch h) hCle (Nat.le_refl _) hDC hfp (W.frame _ _ _ hst fun b _ o e => old b o e) hacc hns₁ old (hJ0 _ old) stab turn fun h' tk' m' ys hn hl hJn hk => ?_
    refine ⟨m', hn, fun h'' hs'' => ?_⟩
    have hCw : H2.objs.size ∉ wr := fun h => Nat.lt_irrefl _ (Nat.lt_of_lt_of_le (hfp _ (W.sub _ h)) hCle)
    exact hQ h'' tk' ys (hl.extBut hs''.extBut hDC) (stab _ _ _ _ (fun b o _ hb _ e => hs''.extBut b o hb e) hJn) fun b o hb e => hs''.extBut b o (by rw [hC]; exact Nat.ne_of_lt (Nat.lt_succ_of_lt (Heap.lt_size e))) (hk b o hb e)
  exact codeAny_compStart_list (loop _ rfl) (self _ _ _ (W.frame _ _ _ hst fun b _ o e => old b o e) (loop _ rfl))
/-- what a comprehension with a captured name asks behind its iterator -/
def CompAtK (prog : Program) (w : World) (A : Around) (env : Env) (target elt : Expr) (ifs : List Expr) (scope : Scope) (x : Str) (cl : List (Str × Addr)) (Q : Value → Shared → Prop) (it : Value) (s₂ : Shared) : Prop :=
  ∃ (I : Addr) (fp wr : List Addr) (n : Nat) (P Md : Nat → Value → Heap → Prop) (St : Nat → Heap → Prop),
    it = .ref I ∧ KTurns prog w A target I fp wr n P Md St ∧ (∀ (s : Shared) (Q : Value → Shared → Prop) (E : Value → Shared → Prop), St 0 s.heap → Q (.ref I) s → wpAny (model prog w) A (pyIter (.ref I)) Q E s) ∧
    n ≤ sizeLine ∧ (∀ b ∈ fp, b < s₂.heap.objs.size) ∧ St 0 s₂.heap ∧
    ∀ C D K, s₂.heap.objs.size ≤ C → s₂.heap.objs.size ≤ D → s₂.heap.objs.size ≤ K → D ≠ C → K ≠ C → K ≠ D → ∃ J : Nat → List Value → Heap → Prop,
      (∀ h, (∀ b o, s₂.heap.get? b = some o → h.get? b = some o) → h.IsCell K none → J 0 [] h) ∧
      (∀ i ys h h', (∀ b o, b ∉ wr → b ≠ C → b ≠ D → h.get? b = some o → h'.get? b = some o) → J i ys h → J i ys h') ∧
      (∀ i ys v h₃ tk₃ m₃, i < n → P i v h₃ → St (i + 1) h₃ → J i ys h₃ → h₃.Ns C m₃ → h₃.PlainList D (List.toArray ys) → (∀ b o, b ∉ wr → s₂.heap.get? b = some o → h₃.get? b = some o) →
        CTurn prog w A (compEnvC scope ((x, K) :: cl) C env) target elt ifs C [K] s₂ h₃ tk₃ v (fun h => J (i + 1) ys h) (fun y h => J (i + 1) (ys ++ [y]) h)) ∧
      (∀ h' tk' ys, h'.PlainList D (List.toArray ys) → J n ys h' → (∀ b o, b ∉ wr → s₂.heap.get? b = some o → h'.get? b = some o) → Q (.ref D) { s₂ with heap := h', toks := tk' })

theorem comp_evalK {target elt iter : Expr} {ifs : List Expr} {scope : Scope} {pos : Pos} {x : Str} {cl : List (Str × Addr)} {Q : Value → Shared → Prop}
    (hclos : closureFor scope env = pure cl) (hcf : ∀ c, cellsFrom c scope.names cl = (x, c) :: cl) (hpc : ∀ h, pushCells h scope.names = h.push { cls := .type "cell", data := .cell none }) (hkind : scope.kind = .function)
    (hnames : ∀ y ∈ scope.names, y.2 = .local → scope.names.lookup y.1 = some .local)
    (hs : ∀ x, foldedSetIterable iter env x = pure x)
    (h : wpAny (model prog w) A (eval iter env) (fun xv s₁ => wpAny (model prog w) A (pyIter xv) (fun it s₂ => CompAtK prog w A env target elt ifs scope x cl Q it s₂) E s₁) E s) :
    wpAny (model prog w) A (eval (.ListComp elt [⟨target, iter, ifs, 0⟩] scope pos) env) Q E s := by
  rw [eval_ListComp]
  refine wpAny_comprehension_free (use := none) rfl hs hclos hkind hnames (wpAny_mono h (fun xv s₁ h₁ => wpAny_mono h₁ (fun it s₂ h₂ => ?_) fun _ _ e => e) fun _ _ e => e)
  obtain ⟨I, fp, wr, n, P, Md, St, rfl, W, self, hsz, hfp, hst, hJ⟩ := h₂
  refine wpAny_newObj_type ?_
  simp only [newFunctionEnv, Option.isSome_some, if_true]
  refine wpAny_bind (wpAny_alloc ?_)
  refine wpAny_bind (wpAny_layCells _ (fun name kind cells => by cases hkc : kind == NameKind.cell <;> simp [hkc]) _ _ _ _ ?_)
  rw [hcf, hpc]
  rw [List.forIn_nil]
  refine wpAny_bind (wpAny_pure (wpAny_pure ?_))
  dsimp only
  generalize hH2 : s₂.heap.push { cls := .type "list", dict := none, data := .seq ([] : List Value).toArray } = H2
  generalize hH3 : H2.push { cls := .type "dict", data := .dict #[] } = H3
  generalize hH4 : H3.push { cls := .type "cell", data := .cell none } = H4
  have hC : H2.objs.size = s₂.heap.objs.size + 1 := by rw [← hH2, Heap.size_push]
  have hK : H3.objs.size = s₂.heap.objs.size + 2 := by rw [← hH3, Heap.size_push, hC]
  have hCle : s₂.heap.objs.size ≤ H2.objs.size := by rw [hC]; exact Nat.le_succ _
  have hKle : s₂.heap.objs.size ≤ H3.objs.size := by rw [hK]; exact Nat.le_add_right _ _
  have hDC : s₂.heap.objs.size ≠ H2.objs.size := by rw [hC]; exact Nat.ne_of_lt (Nat.lt_succ_self _)
  have hKC : H3.objs.size ≠ H2.objs.size := by rw [hC, hK]; exact fun e => by omega
  have hKD : H3.objs.size ≠ s₂.heap.objs.size := by rw [hK]; exact fun e => by omega
  have old : ∀ b o, s₂.heap.get? b = some o → H4.get? b = some o := fun b o e => by
    rw [← hH4, ← hH3, ← hH2]
    exact Heap.get?_push_of_some _ (Heap.get?_push_of_some _ (Heap.get?_push_of_some _ e))
  have hacc : H4.PlainList s₂.heap.objs.size #[] := by
    rw [← hH4, ← hH3, ← hH2]
    exact ⟨_, Heap.get?_push_of_some _ (Heap.get?_push_of_some _ (Heap.get?_push_size _ rfl))⟩
  have hns : H4.Ns H2.objs.size fun _ => none := by
    rw [← hH4, ← hH3]
    exact (Heap.Ns.new H2 (.type "dict")).keeps fun b o e => Heap.get?_push_of_some _ e
  have hcl : H4.IsCell H3.objs.size none := by
    rw [← hH4]
    exact ⟨_, Heap.get?_push_size _ rfl, rfl⟩
  obtain ⟨J, hJ0, stab, turn, hQ⟩ := hJ H2.objs.size s₂.heap.objs.size H3.objs.size hCle (Nat.le_refl _) hKle hDC hKC hKD
  have loop : codeAny (model prog w) A (.compLoop (.ListComp elt [⟨target, iter, ifs, 0⟩] scope pos) 0 (.ref I) (.ref s₂.heap.objs.size) (compEnvC scope ((x, H3.objs.size) :: cl) H2.objs.size env))
        (compPost (model prog w) A E none Q (.ref s₂.heap.objs.size) H2.objs.size) { s₂ with heap := H4, toks := s₂.toks } := by
    refine comp_loop W hsz J [H3.objs.size] (fun b hb => ?_) hCle (Nat.le_refl _) hDC hfp (W.frame _ _ _ hst fun b _ o e => old b o e) hacc hns old (hJ0 _ old hcl) stab turn fun h' tk' m' ys hn hl hJn hk => ?_
    · rw [List.mem_singleton.mp hb]; exact ⟨hKle, hKD⟩
    refine ⟨m', hn, fun h'' hs'' => ?_⟩
    have hCw : H2.objs.size ∉ wr := fun h => Nat.lt_irrefl _ (Nat.lt_of_lt_of_le (hfp _ (W.sub _ h)) hCle)
    exact hQ h'' tk' ys (hl.extBut hs''.extBut hDC) (stab _ _ _ _ (fun b o _ hb _ e => hs''.extBut b o hb e) hJn) fun b o hb e => hs''.extBut b o (by rw [hC]; exact Nat.ne_of_lt (Nat.lt_succ_of_lt (Heap.lt_size e))) (hk b o hb e)
  exact codeAny_compStart_list loop (self _ _ _ (W.frame _ _ _ hst fun b _ o e => old b o e) loop)
end
end Mine

-- R1
namespace Mine
theorem topOff_R1 : True := by
  w_top off
  trivial
end Mine
namespace Mine
open PySem PySem.W PyProof.Rows PySem.Calls PySem.Spec
theorem enterC {w : World} {p : Program} {loose : List Str} {mean : ExcName → Option Value} {mg mb : Str → Option Value} {A : Around} {s : Shared} {R : Result → Shared → Prop}
    {name qual : Str} {params : Arguments} {body : List Stmt} {scope : Scope} {dV kV doc pm cdv ct oc : Value} {an od : Option Addr} {osl : Array (Option Value)} {f : Addr} {args : Args} {binds : List (Str × Value)}
    (X : (KK w.params).In s.heap) (T : Top p loose mean mg mb s.heap) (hroom : A.depth < recursionLimit)
    (ho : (KK w.params).lookup f = some ⟨oc, od, .func (fnOf name qual params body scope dV kV doc pm an cdv ct), osl⟩) (hcd : codeIn (KK w.params) cdv qual = true)
    (hbind : BindsTo s (fnOf name qual params body scope dV kV doc pm an cdv ct) args binds)
    (hkind : (binds.all fun y => scope.names.lookup y.1 == some .local || scope.names.lookup y.1 == some .cell) = true)
    (hnd : ((cellsFrom 0 scope.names []).map (·.1)).Nodup)
    (h : ∀ L h₁ tk cells, Fr s.heap L h₁ (bindL (envOfC qual scope L f cdv).kindOf binds fun _ => none) → News s.heap L h₁ cells →
      CellsAre (bindC (envOfC qual scope L f cdv).kindOf binds fun _ => none) (cellsFrom (L + 1) scope.names []) cells →
      wpAny (model PG w) (A.deeper (envOfC qual scope L f cdv)) (execs body (envOfC qual scope L f cdv))
        (fun fl s' => R (.ok (.ret (match fl with | .ret v => v | _ => .none))) s') (fun _ _ => False) { s with heap := h₁, toks := tk })
    (hco : scope.isCoroutine = false) (hgen : scope.isGenerator = false) (hk : scope.kind = .function) : codeAny (model PG w) A (.call (.ref f) args) R s := by
  refine codeAny_call_function (fd := fnX name qual params body scope [] dV kV doc pm an cdv ct) (body := body) hroom (X _ _ ho) rfl hco hgen rfl (codeRec_of X hcd) (hbind _ _ _ _ ?_)
  refine wpAny_newFunctionEnv_cells hk (kindsX hkind _) fun env' he s' x => ?_
  subst he
  refine ⟨T.nolimit.keeps x.toInCall.keep, codeAny_func ?_⟩
  obtain ⟨h₁, tk, rfl, _⟩ := x.done
  have hk₁ := x.toInCall.keep
  obtain ⟨cells, NC, Y⟩ := Cl.news (h₀ := s.heap) (Nat.le_refl _) fun n c hm => ⟨x.cell n c (lookup_of_mem_nodup (cellsFrom_names scope.names 0 (s.heap.objs.size + 1) [] [] rfl ▸ hnd) hm), x.above n c hm⟩
  exact wpAny_mono (h _ h₁ tk cells ⟨x.toInCall.ns, hk₁, Nat.le_refl _⟩ NC Y) (fun _ _ y => y) fun _ _ y => y.elim
end Mine
namespace Mine
open PySem PySem.W PyProof.Rows PySem.Calls PySem.Spec
section
variable {prog : Program} {w : World} {A : Around} {E : Value → Shared → Prop} {s : Shared} {env : Env}

/-- the frame of a comprehension's turn, over the base of the def -/
theorem frC {h₀ h h₃ : Heap} {L C : Addr} {m m₃ : Str → Option Value} (F : Fr h₀ L h m) (hn : h₃.Ns C m₃) (hC : h.objs.size ≤ C) (k : Kp h h₃) : Fr h₀ C h₃ m₃ :=
  ⟨hn, fun b o e => k b o (F.keep b o e), by
    have h1 := F.above
    have h2 := F.ns.lt
    exact Nat.le_trans h1 (Nat.le_trans (Nat.le_of_lt h2) hC)⟩
theorem nwC {h₀ h h₃ : Heap} {L C : Addr} {news : List (Addr × Obj)} (N : News h₀ L h news) (hC : h.objs.size ≤ C) (k : Kp h h₃) : News h₀ C h₃ news :=
  fun p hp => ⟨k _ _ (N p hp).1, Nat.ne_of_lt (Nat.lt_of_lt_of_le (Heap.lt_size (N p hp).1) hC), (N p hp).2.2⟩

/-- what a turn over plain values asks -/
def VTurn (prog : Program) (w : World) (A : Around) (cenv : Env) (elt : Expr) (ifs : List Expr) (s₃ : Shared) (Gn : Prop) (Gy : Value → Prop) : Prop :=
  wpAny (model prog w) A (forIn ifs true fun c r => if r = true then do let ok ← isTrue c cenv (eval c cenv); pure (ForInStep.yield ok) else pure (ForInStep.yield r)) (fun ok s₅ =>
      if ok = true then wpAny (model prog w) A (eval elt cenv) (fun y s₆ => Gy y ∧ Keeps s₃ s₆) (fun _ _ => False) s₅ else Gn ∧ Keeps s₃ s₅) (fun _ _ => False) s₃

theorem vturn_name {elt : Expr} {ifs : List Expr} {scope : Scope} {cl : List (Str × Addr)} {x : Str} {px : Pos} {C : Addr} {s₂ : Shared} {h₃ : Heap} {tk₃ : Nat} {v : Value} {m₃ : Str → Option Value} {Jn : Heap → Prop} {Jy : Value → Heap → Prop} {Gn : Prop} {Gy : Value → Prop}
    (hkind : scope.kind = .function) (hx : scope.names.lookup x = some .local) (hn : h₃.Ns C m₃)
    (hJn : ∀ h, Gn → Jn h) (hJy : ∀ y h, Gy y → Jy y h)
    (turn : ∀ h₄ tk₄, h₄.Ns C (fun y => if y = x then some v else m₃ y) → (∀ b o, b ≠ C → h₃.get? b = some o → h₄.get? b = some o) → VTurn prog w A (compEnvC scope cl C env) elt ifs { s₂ with heap := h₄, toks := tk₄ } Gn Gy) :
    CTurn prog w A (compEnvC scope cl C env) (.Name x px) elt ifs C [] s₂ h₃ tk₃ v Jn Jy := by
  refine wpAny_assign_Name (wpAny_storeName_local (lookup_relabel_local hx) hn (fun h₄ hn₄ hs₄ => ?_) (by simp [compEnvC, relabel, hkind]))
  have k4 : ∀ b o, b ≠ C → h₃.get? b = some o → h₄.get? b = some o := fun b o hb e => hs₄.extBut b o hb e
  refine wpAny_mono (turn h₄ _ hn₄ k4) (fun ok s₅ h₅ => ?_) fun _ _ e => e
  cases ok with
  | false =>
    obtain ⟨hg, h', tk', rfl, hk⟩ := h₅
    exact ⟨h', tk', _, rfl, fun b o hb _ e => hk b o (k4 b o hb e), hn₄.keeps hk, hJn _ hg⟩
  | true =>
    refine wpAny_mono h₅ (fun y s₆ h₆ => ?_) fun _ _ e => e
    obtain ⟨hg, h', tk', rfl, hk⟩ := h₆
    exact ⟨h', tk', _, rfl, fun b o hb _ e => hk b o (k4 b o hb e), hn₄.keeps hk, hJy _ _ hg⟩

/-- a comprehension over range(n), its items plain values -/
theorem comp_range {elt : Expr} {ifs : List Expr} {scope : Scope} {cl : List (Str × Addr)} {x : Str} {px : Pos} {Q : Value → Shared → Prop} {r : Addr} {n : Nat} {t₀ u₀ v₀ : Tok} (G : Nat → List Value → Prop)
    (hh : A.handled = none) (hr : IsRange s.heap r 0 n 1 t₀ u₀ v₀) (hn : n ≤ 1000) (hkind : scope.kind = .function) (hx : scope.names.lookup x = some .local) (h0 : G 0 [])
    (turn : ∀ i ys t C h₃ tk₃ m₃, i < n → G i ys → s.heap.objs.size ≤ C → h₃.Ns C m₃ → m₃ x = some (.int (i : Nat) t) → Kp s.heap h₃ →
      VTurn prog w A (compEnvC scope cl C env) elt ifs { s with heap := h₃, toks := tk₃ } (G (i + 1) ys) (fun y => G (i + 1) (ys ++ [y])))
    (done : ∀ D h' tk' ys, G n ys → s.heap.objs.size ≤ D → h'.IsList D (List.toArray ys) → Kp s.heap h' → Q (.ref D) { s with heap := h', toks := tk' }) :
    wpAny (model prog w) A (pyIter (.ref r)) (fun it s₂ => CompAt prog w A env (.Name x px) elt ifs scope cl Q it s₂) E s := by
  have hsmall : Builtin.Range.small 0 (n : Int) 1 = true := by
    exact small_one (by omega) (by omega) (by omega) (by omega)
  have hrs : Builtin.Range.rangeSize 0 (n : Int) 1 = (n : Int) := by
    simp only [Builtin.Range.rangeSize]; first | omega | (simp; omega)
  refine wpAny_pyIter_range hr hsmall ?_
  have hlt : ∀ b o, s.heap.get? b = some o → b ∉ [s.heap.objs.size] := fun b o e hm => by
    rw [List.mem_singleton.mp hm] at e; exact Nat.lt_irrefl _ (Heap.lt_size e)
  refine ⟨s.heap.objs.size, [s.heap.objs.size], [s.heap.objs.size], n, _, _, _, rfl, KTurns.ofWalks (Walks.range hh _ 0 1 n).bound (fun i v s Q E st q => ?_), fun s' Q' E' st q => (Walks.range hh _ 0 1 n).self 0 _ _ _ st q, Nat.le_trans hn (by decide), ?_, ?_, ?_⟩
  · exact wpAny_pure q
  · intro b hb
    rw [List.mem_singleton.mp hb]
    show s.heap.objs.size < (s.heap.push _).objs.size
    rw [Heap.size_push]; exact Nat.lt_succ_self _
  · show IsRangeIter _ _ _ _ _
    rw [hrs]; simpa using Heap.get?_push_size _ rfl
  intro C D hC hD hDC
  have hC' : s.heap.objs.size ≤ C := by
    refine Nat.le_trans ?_ hC
    show s.heap.objs.size ≤ (s.heap.push _).objs.size
    rw [Heap.size_push]; exact Nat.le_succ _
  have hD' : s.heap.objs.size ≤ D := by
    refine Nat.le_trans ?_ hD
    show s.heap.objs.size ≤ (s.heap.push _).objs.size
    rw [Heap.size_push]; exact Nat.le_succ _
  refine ⟨fun i ys _ => G i ys, fun _ _ => h0, fun _ _ _ _ _ h => h, ?_, ?_⟩
  · intro i ys v h₃ tk₃ m₃ hi hP _ hG hns _ hk
    obtain ⟨_, t, ht⟩ := hP
    refine vturn_name hkind hx hns (fun _ h => h) (fun _ _ h => h) fun h₄ tk₄ hn₄ hk₄ => ?_
    refine turn i ys t C h₄ tk₄ _ hi hG hC' hn₄ ?_ fun b o e => hk₄ b o (Nat.ne_of_lt (Nat.lt_of_lt_of_le (Heap.lt_size e) hC')) (hk b o (hlt b o e) (Heap.get?_push_of_some _ e))
    simp only [if_true, ht]
    simp
  · intro h' tk' ys hl hG hk
    exact done D h' tk' ys hG hD' hl.isList fun b o e => hk b o (hlt b o e) (Heap.get?_push_of_some _ e)
end
end Mine
namespace Mine
open PySem PySem.W PyProof.Rows PySem.Calls PySem.Spec
theorem newList_X {M : Model} {A : Around} {E : Value → Shared → Prop} {s : Shared} {h₀ : Heap} {L : Addr} {m : Str → Option Value} {news : List (Addr × Obj)} {vs : List Value} {Q : Value → Shared → Prop} (F : Fr h₀ L s.heap m) (N : News h₀ L s.heap news)
    (h : ∀ h', Kp s.heap h' → Fr h₀ L h' m → News h₀ L h' ((s.heap.objs.size, { cls := .type "list", data := .seq vs.toArray }) :: news) → Q (.ref s.heap.objs.size) { s with heap := h' }) (hsz : vs.length ≤ sizeLine := by size_fits) :
    wpAny M A (newList vs) Q E s := wpAny_newObj_type (h _ (fun b o e => Heap.get?_push_of_some _ e) (F.push _) (N.push F _)) (by show vs.toArray.size ≤ sizeLine; rw [List.size_toArray]; exact hsz)
theorem kp_trans {a b c : Heap} (h : Kp a b) (k : Kp b c) : Kp a c := fun x o e => k x o (h x o e)
theorem keeps_of {s : Shared} {h h' : Heap} {tk tk' : Nat} (k : Kp h h') : Keeps { s with heap := h, toks := tk } { s with heap := h', toks := tk' } := ⟨h', tk', rfl, k⟩
end Mine

-- R2
namespace Mine
theorem topOff_R2 : True := by
  w_top off
  trivial
end Mine
namespace Mine
open PySem PySem.W PyProof.Rows PySem.Calls PySem.Spec PySem.Builtin PySem.Builtin.Str
/-- a text out of its signs' numbers -/
def tx (l : List Nat) : Str := ⟨l.toArray⟩
theorem tx_len (l : List Nat) : (tx l).length = l.length := by simp [tx, Str.length]
theorem tx_app (a b : List Nat) : tx a ++ tx b = tx (a ++ b) := by
  show Str.append _ _ = _
  simp [tx, Str.append]
theorem tx_nil : (Str.ofString "") = tx [] := by decide +kernel
theorem join_flat : ∀ ls : List (List Nat), Str.join (tx []) (ls.map tx) = tx ls.flatten
  | [] => rfl
  | [x] => by simp [Str.join]
  | x :: y :: r => by
    have ih := join_flat (y :: r)
    rw [List.map_cons, List.map_cons, Str.join, ← List.map_cons, ih, tx_app, tx_app]
    · simp
    · simp
theorem len_flat (B : Nat) : ∀ ls : List (List Nat), (∀ l ∈ ls, l.length ≤ B) → ((ls.map tx).map (·.length)).sum ≤ ls.length * B
  | [], _ => by simp
  | x :: r, h => by
    have ih := len_flat B r fun l hl => h l (List.mem_cons_of_mem _ hl)
    have h1 := h x (List.mem_cons_self ..)
    have h2 := tx_len x
    simp only [List.map_cons, List.sum_cons, List.length_cons]
    have : (r.length + 1) * B = r.length * B + B := by rw [Nat.add_mul, Nat.one_mul]
    omega
section
variable {prog : Program} {w : World} {A : Around} {E : Value → Shared → Prop} {s : Shared}
theorem join_cat {D : Addr} {ys : List Value} {ls : List (List Nat)} {t : Tok} {Q : Value → Shared → Prop} (hl : s.heap.IsList D ys.toArray) (hS : StrsAre ys (ls.map tx)) (h1 : ls.length ≤ 1000) (h2 : ∀ l ∈ ls, l.length ≤ 100)
    (hq : ∀ t k, Q (.str (tx ls.flatten) t) { s with toks := k }) : wpAny (model prog w) A (call (.builtin "str.join") [.str (Str.ofString "") t, .ref D]) Q E s := by
  obtain ⟨l, rfl, hm⟩ := strsAre_values hS
  have h3 := len_flat 100 ls h2
  refine SC.join hl hm (joinOk_of ?_) fun t' k => ?_
  · rw [List.length_map]
    have : (Str.ofString "").length = 0 := by decide +kernel
    rw [this]
    have : ls.length * 100 ≤ 1000 * 100 := Nat.mul_le_mul_right _ h1
    omega
  · show Q (.str (glued _ _) t') _
    rw [StrLaws.glued_eq_join, tx_nil, join_flat]
    exact hq t' k
theorem flat_one : ∀ l : List Nat, (l.map fun c => [c]).flatten = l
  | [] => rfl
  | c :: r => by simp [flat_one r]
theorem join_signs {D : Addr} {ys : List Value} {l : List Nat} {t : Tok} {Q : Value → Shared → Prop} (hl : s.heap.IsList D ys.toArray) (hS : StrsAre ys (l.map fun c => tx [c])) (h1 : l.length ≤ 1000)
    (hq : ∀ t k, Q (.str (tx l) t) { s with toks := k }) : wpAny (model prog w) A (call (.builtin "str.join") [.str (Str.ofString "") t, .ref D]) Q E s := by
  refine join_cat (ls := l.map fun c => [c]) hl (by rw [List.map_map]; exact hS) (by simpa using h1) (fun x hx => ?_) fun t k => ?_
  · obtain ⟨c, _, rfl⟩ := List.mem_map.mp hx
    simp
  · rw [flat_one]; exact hq t k
end
end Mine
namespace Mine
open PySem PySem.W PyProof.Rows PySem.Calls PySem.Spec PySem.Builtin PySem.Builtin.Str
theorem sg_getD {a : List Nat} {i : Nat} (h : i < a.length) : (a.map fun c => tx [c]).getD i Str.empty = tx [a.getD i 0] := by
  simp [List.getD, List.getElem?_map, List.getElem?_eq_getElem h]
theorem tx_inj {a b : List Nat} (h : tx a = tx b) : a = b := by
  have := congrArg (fun x : Str => x.cps.toList) h
  simpa [tx] using this
theorem tx1_ne (c d : Nat) : (tx [c] != tx [d]) = (c != d) := by
  by_cases h : c = d
  · subst h; simp
  · have : tx [c] ≠ tx [d] := fun e => h (by simpa using tx_inj e)
    rw [bne_iff_ne.mpr this, bne_iff_ne.mpr h]
theorem q_tx : Str.ofString "?" = tx [63] := by decide +kernel
theorem tx_item {r : List Nat} {i : Nat} (h : i < r.length) : Txt.item (tx r) i = tx [r.getD i 0] := by
  rw [item_at (n := i) (by omega) (by rw [tx_len]; omega) (by omega)]
  simp [tx]
end Mine
namespace Mine
open PySem PySem.W PyProof.Rows PySem.Calls PySem.Spec PySem.Builtin PySem.Builtin.Str
theorem ints_snoc {ys : List Value} {ns : List Int} {i : Int} {t : Tok} (h : IntsAre ys ns) : IntsAre (ys ++ [.int i t]) (ns ++ [i]) := by
  induction h with
  | nil => exact .cons _ _ .nil
  | cons a b _ ih => exact .cons _ _ ih
end Mine

-- S0
namespace Mine
theorem topOff_S0 : True := by
  w_top off
  trivial
end Mine
namespace Mine
open PySem PySem.W PyProof.Rows PySem.Calls PySem.Spec
theorem sl_to (q : List Nat) (j : Nat) (h : j ≤ q.length) : Txt.slice (tx q) none (some (j : Int)) = tx (q.take j) := by
  rw [eq_of_beq (slice_closes_toL (Int.natCast_nonneg _) (by rw [tx_len]; omega))]
  simp [tx]
theorem sl_from (q : List Nat) (i : Nat) (h : i ≤ q.length) : Txt.slice (tx q) (some (i : Int)) none = tx (q.drop i) := by
  rw [slice_from_eq (b := (q.length : Int)) (Int.natCast_nonneg _) (by rw [tx_len]; omega) (by rw [tx_len])]
  have e : ((q.length : Int) - (i : Int)).toNat = (q.drop i).length := by rw [List.length_drop]; omega
  rw [e]
  simp only [tx, Int.toNat_natCast, List.take_length]
theorem sl_mid (q : List Nat) (i j : Nat) (hi : i ≤ j) (h : j ≤ q.length) : Txt.slice (tx q) (some (i : Int)) (some (j : Int)) = tx ((q.drop i).take (j - i)) := by
  rw [eq_of_beq (slice_closesL (Int.natCast_nonneg _) (by omega) (by rw [tx_len]; omega))]
  have e : ((j : Int) - (i : Int)).toNat = j - i := by omega
  rw [e]
  simp only [tx, Int.toNat_natCast]
theorem ix_neg_lo (n i : Nat) (h0 : 0 < i) (h : i ≤ n) (u : Option Int) : Builtin.Str.strSliceIndices (some (-(i : Int))) u 1 n = Builtin.Str.strSliceIndices (some ((n - i : Nat) : Int)) u 1 n := by
  unfold Builtin.Str.strSliceIndices
  dsimp only
  rw [if_pos (show -(i : Int) < 0 by omega), if_neg (show ¬ ((n - i : Nat) : Int) < 0 by omega), show -(i : Int) + (n : Int) = ((n - i : Nat) : Int) by omega]
theorem ix_neg_hi (n i : Nat) (h0 : 0 < i) (h : i ≤ n) (l : Option Int) : Builtin.Str.strSliceIndices l (some (-(i : Int))) 1 n = Builtin.Str.strSliceIndices l (some ((n - i : Nat) : Int)) 1 n := by
  unfold Builtin.Str.strSliceIndices
  dsimp only
  rw [if_pos (show -(i : Int) < 0 by omega), if_neg (show ¬ ((n - i : Nat) : Int) < 0 by omega), show -(i : Int) + (n : Int) = ((n - i : Nat) : Int) by omega]
theorem sl_neg_lo (q : List Nat) (i : Nat) (h0 : 0 < i) (h : i ≤ q.length) (u : Option Int) : Txt.slice (tx q) (some (-(i : Int))) u = Txt.slice (tx q) (some ((q.length - i : Nat) : Int)) u := by
  unfold Txt.slice
  rw [tx_len, ix_neg_lo _ _ h0 h]
theorem sl_neg_hi (q : List Nat) (i : Nat) (h0 : 0 < i) (h : i ≤ q.length) (l : Option Int) : Txt.slice (tx q) l (some (-(i : Int))) = Txt.slice (tx q) l (some ((q.length - i : Nat) : Int)) := by
  unfold Txt.slice
  rw [tx_len, ix_neg_hi _ _ h0 h]
theorem sl_read (b : List Nat) {q : List Nat} (hq : q = [40, 63, 115, 58] ++ b ++ [41, 92, 90]) :
    Txt.slice (tx q) none (some 4) = tx [40, 63, 115, 58] ∧ Txt.slice (tx q) (some (-3)) none = tx [41, 92, 90] ∧ Txt.slice (tx q) (some 4) (some (-3)) = tx b := by
  have hl : q.length = b.length + 7 := by rw [hq]; simp
  refine ⟨?_, ?_, ?_⟩
  · rw [show (4 : Int) = ((4 : Nat) : Int) from rfl, sl_to q 4 (by omega), hq]; rfl
  · rw [show (-3 : Int) = -((3 : Nat) : Int) from rfl, sl_neg_lo q 3 (by decide) (by omega), sl_from q _ (by omega)]
    congr 1
    rw [hq, List.drop_left' (by simp)]
  · rw [show (-3 : Int) = -((3 : Nat) : Int) from rfl, sl_neg_hi q 3 (by decide) (by omega), show (4 : Int) = ((4 : Nat) : Int) from rfl, sl_mid q 4 _ (by omega) (by omega)]
    congr 1
    rw [hq, List.append_assoc]
    show List.take _ (b ++ [41, 92, 90]) = b
    exact List.take_left' (by simp)
end Mine

-- Z3
namespace Mine
theorem topOff_Z3 : True := by
  w_top off
  trivial
end Mine
namespace Mine
open PySem PySem.W PyProof.Rows PySem.Calls PySem.Spec
open Sem (wp)
abbrev IsTrip (h : Heap) (T : Addr) (a b c : Value) : Prop := h.get? T = some { cls := .type "tuple", data := .seq #[a, b, c] }
section
variable {prog : Program} {w : World} {A : Around} {E : Value → Shared → Prop} {s : Shared}

theorem wpAny_updateSeq_trip {T : Addr} {a b c x : Value} {k : Nat} {Q : Unit → Shared → Prop} (hT : IsTrip s.heap T a b c)
    (h : ∀ h', h'.get? T = some { cls := .type "tuple", data := .seq ((#[a, b, c] : Array Value).setIfInBounds k x) } → Heap.SameBut T s.heap h' → Q () { s with heap := h' }) :
    wpAny (model prog w) A (updateSeq T (·.setIfInBounds k x)) Q E s := by
  refine wpAny_updateSeq hT rfl (h _ ?_ (Heap.SameBut.update ..))
  rw [Heap.get?_update_self _ hT rfl]
  simp [Obj.mapSeq]

/-- where a zip of three stands: its parts at N, N + 1 .. N + 5 -/
structure ZSt (h : Heap) (N l1 l2 : Addr) (xs ys : Array Value) (x3 : Str) (t3 : Tok) (f0 : Value) (k : Nat) : Prop where
  z : IsZip h (N + 5) (N + 3) (N + 4) f0
  TI : IsTrip h (N + 3) (.ref N) (.ref (N + 1)) (.ref (N + 2))
  TO : ∃ a b c, IsTrip h (N + 4) a b c
  i1 : h.IsListIter N l1 k
  i2 : h.IsListIter (N + 1) l2 k
  i3 : h.IsStrIter (N + 2) "str_ascii_iterator" x3 t3 k
  l1 : h.IsList l1 xs
  l2 : h.IsList l2 ys

theorem zip3_next_item {N l1 l2 : Nat} {k : Nat} {xs ys : Array Value} {x3 : Str} {t3 : Tok} {x y : Value} {c : Nat} {Q : Value → Shared → Prop} (h1N : l1 < N) (h2N : l2 < N)
    (Z : ZSt s.heap N l1 l2 xs ys x3 t3 .none k) (hx : xs[k]? = some x) (hy : ys[k]? = some y) (hc : x3.cps[k]? = some c)
    (hQ : ∀ h' t tk, ZSt h' N l1 l2 xs ys x3 t3 (rawInt s.heap.objs.size) (k + 1) → IsTrip h' s.heap.objs.size x y (.str ⟨#[c]⟩ t) →
      (∀ b o, b ≠ N → b ≠ N + 1 → b ≠ N + 2 → b ≠ N + 4 → b ≠ N + 5 → s.heap.get? b = some o → h'.get? b = some o) → Q (.ref s.heap.objs.size) { s with heap := h', toks := tk }) :
    wpAny (model prog w) A (Builtin.«zip.__next__» ⟨[.ref (N + 5)], []⟩) (fun fin s' => ∃ v, fin = .done (.ret v) ∧ Q v s') E s := by
  obtain ⟨hz, hTI, ⟨a, b, d, hTO⟩, hi1, hi2, hi3, hl1, hl2⟩ := Z
  show wpAny _ _ (field (.ref (N + 5)) 2 >>= _) _ _ _
  refine wpAny_bind (wpAny_field hz rfl (x := .bool false) rfl ?_)
  show wpAny _ _ (field (.ref (N + 5)) 3 >>= _) _ _ _
  refine wpAny_bind (wpAny_field hz rfl (x := .ref (N + 3)) rfl ?_)
  refine wpAny_bind (wpAny_seqItems hTI rfl ?_)
  show wpAny _ _ (Builtin.SmallTypes.ownedTupleIsFree (.ref (N + 5)) >>= _) _ _ _
  refine wpAny_bind ?_
  unfold Builtin.SmallTypes.ownedTupleIsFree
  refine wpAny_bind (wpAny_field hz rfl (x := .none) rfl (wpAny_pure ?_))
  simp only [if_true]
  refine wpAny_bind (wpAny_rule ?_)
  refine wpAny_bind (wpAny_field hz rfl (x := .ref (N + 4)) rfl ?_)
  refine wpAny_bind (wpAny_setField_rec hz (by simp) fun h₁ hz₁ hs₁ => ?_)
  replace hz₁ : IsZip h₁ (N + 5) (N + 3) (N + 4) .ellipsis := hz₁
  refine wpAny_bind ?_
  simp only [List.zipIdx_cons, List.zipIdx_nil, List.forIn_cons, List.forIn_nil]
  have e1 := hs₁.extBut
  have hi1₁ := hi1.extBut e1 (by k_ne)
  have hi2₁ := hi2.extBut e1 (by k_ne)
  have hi3₁ := hi3.extBut e1 (by k_ne)
  have hl1₁ := hl1.extBut e1 (by k_ne)
  have hl2₁ := hl2.extBut e1 (by k_ne)
  have hTO₁ : IsTrip h₁ (N + 4) a b d := e1 _ _ (by k_ne) hTO
  have hTI₁ : IsTrip h₁ (N + 3) _ _ _ := e1 _ _ (by k_ne) hTI
  refine wpAny_bind (wpAny_bind (wpAny_onRaise ?_))
  show wpAny _ _ (Builtin.SmallTypes.nextOf (.ref N) >>= _) _ _ _
  refine wpAny_bind (wpAny_nextOf_list_item hi1₁ hl1₁ hx fun h₂ hi1₂ hs₂ => wpAny_pure ?_)
  have e2 := hs₂.extBut
  have hTO₂ : IsTrip h₂ (N + 4) a b d := e2 _ _ (by k_ne) hTO₁
  refine wpAny_bind (wpAny_seqItems hTO₂ rfl ?_)
  refine wpAny_bind (wpAny_updateSeq_trip hTO₂ fun h₃ hTO₃ hs₃ => ?_)
  replace hTO₃ : IsTrip h₃ (N + 4) x b d := hTO₃
  have e3 := hs₃.extBut
  refine wpAny_bind (wpAny_letGo (wpAny_pure ?_))
  have hi2₃ := (hi2₁.extBut e2 (by k_ne)).extBut e3 (by k_ne)
  have hl2₃ := (hl2₁.extBut e2 (by k_ne)).extBut e3 (by k_ne)
  refine wpAny_bind (wpAny_bind (wpAny_onRaise ?_))
  show wpAny _ _ (Builtin.SmallTypes.nextOf (.ref (N + 1)) >>= _) _ _ _
  refine wpAny_bind (wpAny_nextOf_list_item hi2₃ hl2₃ hy fun h₄ hi2₄ hs₄ => wpAny_pure ?_)
  have e4 := hs₄.extBut
  have hTO₄ : IsTrip h₄ (N + 4) x b d := e4 _ _ (by k_ne) hTO₃
  refine wpAny_bind (wpAny_seqItems hTO₄ rfl ?_)
  refine wpAny_bind (wpAny_updateSeq_trip hTO₄ fun h₅ hTO₅ hs₅ => ?_)
  replace hTO₅ : IsTrip h₅ (N + 4) x y d := hTO₅
  have e5 := hs₅.extBut
  refine wpAny_bind (wpAny_letGo (wpAny_pure ?_))
  have hi3₅ := (((hi3₁.extBut e2 (by k_ne)).extBut e3 (by k_ne)).extBut e4 (by k_ne)).extBut e5 (by k_ne)
  refine wpAny_bind (wpAny_bind (wpAny_onRaise ?_))
  show wpAny _ _ (Builtin.SmallTypes.nextOf (.ref (N + 2)) >>= _) _ _ _
  refine wpAny_bind (wpAny_nextOf_ascii_item hi3₅ hc fun h₆ hi3₆ hs₆ => wpAny_pure ?_)
  have e6 := hs₆.extBut
  have hTO₆ : IsTrip h₆ (N + 4) x y d := e6 _ _ (by k_ne) hTO₅
  refine wpAny_bind (wpAny_seqItems hTO₆ rfl ?_)
  refine wpAny_bind (wpAny_updateSeq_trip hTO₆ fun h₇ hTO₇ hs₇ => ?_)
  generalize ht : s.toks = t at hTO₇
  replace hTO₇ : IsTrip h₇ (N + 4) x y (.str ⟨#[c]⟩ t) := hTO₇
  have e7 := hs₇.extBut
  refine wpAny_bind (wpAny_letGo (wpAny_pure (wpAny_pure ?_)))
  refine wpAny_bind (wpAny_seqItems hTO₇ rfl ?_)
  refine wpAny_bind (wpAny_newTuple ?_)
  have hsz : h₇.objs.size = s.heap.objs.size := by rw [hs₇.1, hs₆.1, hs₅.1, hs₄.1, hs₃.1, hs₂.1, hs₁.1]
  have hz₇ : IsZip h₇ (N + 5) (N + 3) (N + 4) .ellipsis := e7 _ _ (by k_ne) (e6 _ _ (by k_ne) (e5 _ _ (by k_ne) (e4 _ _ (by k_ne) (e3 _ _ (by k_ne) (e2 _ _ (by k_ne) hz₁)))))
  have hk₇ : ∀ b o, b ≠ N → b ≠ N + 1 → b ≠ N + 2 → b ≠ N + 4 → b ≠ N + 5 → s.heap.get? b = some o → h₇.get? b = some o := fun b o c0 c1 c2 c4 c5 e =>
    e7 _ _ c4 (e6 _ _ c2 (e5 _ _ c4 (e4 _ _ c1 (e3 _ _ c4 (e2 _ _ c0 (e1 _ _ c5 e))))))
  have hi1₇ := ((((hi1₂.extBut e3 (by k_ne)).extBut e4 (by k_ne)).extBut e5 (by k_ne)).extBut e6 (by k_ne)).extBut e7 (by k_ne)
  have hi2₇ := ((hi2₄.extBut e5 (by k_ne)).extBut e6 (by k_ne)).extBut e7 (by k_ne)
  have hi3₇ := hi3₆.extBut e7 (by k_ne)
  have hzlt : N + 5 < h₇.objs.size := Heap.lt_size hz₇
  show wpAny _ _ (Builtin.SmallTypes.ownedTupleHandOut (.ref (N + 5)) (.ref h₇.objs.size) >>= _) _ _ _
  refine wpAny_bind ?_
  unfold Builtin.SmallTypes.ownedTupleHandOut
  have hz₈ : IsZip (h₇.push { cls := .type "tuple", data := .seq #[x, y, .str ⟨#[c]⟩ t] }) (N + 5) (N + 3) (N + 4) .ellipsis := Heap.get?_push_of_some _ hz₇
  refine wpAny_bind (wpAny_setField_rec hz₈ (by simp) fun h₉ hz₉ hs₉ => ?_)
  replace hz₉ : IsZip h₉ (N + 5) (N + 3) (N + 4) (rawInt h₇.objs.size) := hz₉
  refine wpAny_setField_rec hz₉ (by simp) fun h₁₀ hz₁₀ hs₁₀ => ?_
  replace hz₁₀ : IsZip h₁₀ (N + 5) (N + 3) (N + 4) (rawInt h₇.objs.size) := hz₁₀
  have up : ∀ b o, b ≠ N + 5 → h₇.get? b = some o → h₁₀.get? b = some o := fun b o c1 e => hs₁₀.extBut _ _ c1 (hs₉.extBut _ _ c1 (Heap.get?_push_of_some _ e))
  have hT : IsTrip h₁₀ h₇.objs.size x y (.str ⟨#[c]⟩ t) := hs₁₀.extBut _ _ (Nat.ne_of_gt hzlt) (hs₉.extBut _ _ (Nat.ne_of_gt hzlt) (Heap.get?_push_size _ rfl))
  have hTI₇ : IsTrip h₇ (N + 3) (.ref N) (.ref (N + 1)) (.ref (N + 2)) := hk₇ _ _ (by k_ne) (by k_ne) (by k_ne) (by k_ne) (by k_ne) hTI
  have hl1₇ : h₇.IsList l1 xs := hl1.at fun o e => hk₇ _ o (by k_ne) (by k_ne) (by k_ne) (by k_ne) (by k_ne) e
  have hl2₇ : h₇.IsList l2 ys := hl2.at fun o e => hk₇ _ o (by k_ne) (by k_ne) (by k_ne) (by k_ne) (by k_ne) e
  refine wpAny_pure ⟨_, rfl, ?_⟩
  show Q (.ref h₇.objs.size) _
  rw [hsz] at hz₁₀ hT ⊢
  refine hQ h₁₀ t _ ⟨hz₁₀, up _ _ (by k_ne) hTI₇, ⟨_, _, _, up _ _ (by k_ne) hTO₇⟩, hi1₇.at fun o e => up _ o (by k_ne) e, hi2₇.at fun o e => up _ o (by k_ne) e, ?_, hl1₇.at fun o e => up _ o (by k_ne) e, hl2₇.at fun o e => up _ o (by k_ne) e⟩ hT fun b o c0 c1 c2 c4 c5 e => up b o c5 (hk₇ b o c0 c1 c2 c4 c5 e)
  exact (hi3₇.extBut (b := N + 5) (fun b o hb e => up b o hb e) (by k_ne))

theorem zip3_next_end {N l1 l2 : Nat} {k : Nat} {xs ys : Array Value} {x3 : Str} {t3 : Tok} {Q : Fin → Shared → Prop} (hh : A.handled = none) (h1N : l1 < N)
    (Z : ZSt s.heap N l1 l2 xs ys x3 t3 .none k) (hx : xs[k]? = none)
    (hE : ∀ h' e, (∀ b o, b ≠ N → b ≠ N + 5 → s.heap.get? b = some o → h'.get? b = some o) → (∃ o, h'.get? e = some o ∧ o.cls = .type "StopIteration") → E (.ref e) { s with heap := h' }) :
    wpAny (model prog w) A (Builtin.«zip.__next__» ⟨[.ref (N + 5)], []⟩) Q E s := by
  obtain ⟨hz, hTI, ⟨a, b, d, hTO⟩, hi1, hi2, hi3, hl1, hl2⟩ := Z
  show wpAny _ _ (field (.ref (N + 5)) 2 >>= _) _ _ _
  refine wpAny_bind (wpAny_field hz rfl (x := .bool false) rfl ?_)
  show wpAny _ _ (field (.ref (N + 5)) 3 >>= _) _ _ _
  refine wpAny_bind (wpAny_field hz rfl (x := .ref (N + 3)) rfl ?_)
  refine wpAny_bind (wpAny_seqItems hTI rfl ?_)
  show wpAny _ _ (Builtin.SmallTypes.ownedTupleIsFree (.ref (N + 5)) >>= _) _ _ _
  refine wpAny_bind ?_
  unfold Builtin.SmallTypes.ownedTupleIsFree
  refine wpAny_bind (wpAny_field hz rfl (x := .none) rfl (wpAny_pure ?_))
  simp only [if_true]
  refine wpAny_bind (wpAny_rule ?_)
  refine wpAny_bind (wpAny_field hz rfl (x := .ref (N + 4)) rfl ?_)
  refine wpAny_bind (wpAny_setField_rec hz (by simp) fun h₁ hz₁ hs₁ => ?_)
  replace hz₁ : IsZip h₁ (N + 5) (N + 3) (N + 4) .ellipsis := hz₁
  refine wpAny_bind ?_
  simp only [List.zipIdx_cons, List.zipIdx_nil, List.forIn_cons, List.forIn_nil]
  refine wpAny_bind (wpAny_bind (wpAny_onRaise ?_))
  show wpAny _ _ (Builtin.SmallTypes.nextOf (.ref N) >>= _) _ _ _
  refine wpAny_bind (wpAny_nextOf_list_end hh (hi1.extBut hs₁.extBut (by k_ne)) (hl1.extBut hs₁.extBut (by k_ne)) hx fun h₂ e hs₂ he => ?_)
  obtain ⟨oe, hoe, hce⟩ := he
  have hz₂ : IsZip h₂ (N + 5) (N + 3) (N + 4) .ellipsis := hs₂ _ _ (by k_ne) hz₁
  have hez : e ≠ N + 5 := fun x => by subst x; rw [hz₂] at hoe; cases hoe; simp at hce
  refine wpAny_setField_rec hz₂ (by simp) fun h₃ _ hs₃ => hE h₃ e (fun b o c1 c3 x => hs₃.extBut _ _ c3 (hs₂ _ _ c1 (hs₁.extBut _ _ c3 x))) ⟨oe, hs₃.extBut _ _ hez hoe, hce⟩

theorem pyNext_zip3_item {N l1 l2 : Nat} {k : Nat} {xs ys : Array Value} {x3 : Str} {t3 : Tok} {x y : Value} {c : Nat} {Q : Option Value → Shared → Prop} (h1N : l1 < N) (h2N : l2 < N)
    (Z : ZSt s.heap N l1 l2 xs ys x3 t3 .none k) (hx : xs[k]? = some x) (hy : ys[k]? = some y) (hc : x3.cps[k]? = some c)
    (hQ : ∀ h' t tk, ZSt h' N l1 l2 xs ys x3 t3 (rawInt s.heap.objs.size) (k + 1) → IsTrip h' s.heap.objs.size x y (.str ⟨#[c]⟩ t) →
      (∀ b o, b ≠ N → b ≠ N + 1 → b ≠ N + 2 → b ≠ N + 4 → b ≠ N + 5 → s.heap.get? b = some o → h'.get? b = some o) → Q (some (.ref s.heap.objs.size)) { s with heap := h', toks := tk }) :
    wpAny (model prog w) A (pyNext (.ref (N + 5))) Q E s := by
  have hT : s.TypeIs (.ref (N + 5)) "zip" := ⟨_, Z.z, rfl⟩
  unfold pyNext
  exact wpAny_bind (wpAny_attempt (wpAny_callSpecial?_slot (name := Str.ofString "__next__") hT F.slot_zip_next
    (wpAny_call_entry F.slot_zip_next hT F.entry_zip_next
      (zip3_next_item h1N h2N Z hx hy hc fun h' t tk a1 a2 a3 => wpAny_pure (hQ h' t tk a1 a2 a3)) (F.args_zip_next_1 _))))
theorem pyNext_zip3_end {N l1 l2 : Nat} {k : Nat} {xs ys : Array Value} {x3 : Str} {t3 : Tok} {Q : Option Value → Shared → Prop} (hh : A.handled = none) (h1N : l1 < N)
    (Z : ZSt s.heap N l1 l2 xs ys x3 t3 .none k) (hx : xs[k]? = none)
    (hQ : ∀ h', (∀ b o, b ≠ N → b ≠ N + 5 → s.heap.get? b = some o → h'.get? b = some o) → Q none { s with heap := h' }) : wpAny (model prog w) A (pyNext (.ref (N + 5))) Q E s := by
  have hT : s.TypeIs (.ref (N + 5)) "zip" := ⟨_, Z.z, rfl⟩
  unfold pyNext
  refine wpAny_bind (wpAny_attempt (wpAny_callSpecial?_slot (name := Str.ofString "__next__") hT F.slot_zip_next
    (wpAny_call_entry F.slot_zip_next hT F.entry_zip_next (zip3_next_end hh h1N Z hx fun h' e hk he => ?_) (F.args_zip_next_1 _))))
  obtain ⟨o, ho, hc⟩ := he
  refine wpAny_bind (wpAny_isInstance (T := "StopIteration") (b := true) ⟨o, ho, hc⟩ isSubtype_stop ?_)
  exact wpAny_pure (hQ _ hk)
end
end Mine
namespace Mine
open PySem PySem.W PyProof.Rows PySem.Calls PySem.Spec
open Sem (wp)
section
variable {prog : Program} {w : World} {A : Around} {E : Value → Shared → Prop} {s : Shared} {env : Env}
theorem go_zip3 {elts : List Expr} {x1} {pos : Pos} {N l1 l2 : Nat} {k : Nat} {xs ys : Array Value} {x3 : Str} {t3 : Tok} {T : Addr} {Q : Unit → Shared → Prop} (h1N : l1 < N) (h2N : l2 < N)
    (Z : ZSt s.heap N l1 l2 xs ys x3 t3 (rawInt T) k)
    (hQ : ∀ h', ZSt h' N l1 l2 xs ys x3 t3 .none k → Heap.SameBut (N + 5) s.heap h' → Q () { s with heap := h' }) :
    wpAny (model prog w) A (letOwnedTupleGo (.Tuple elts x1 pos) (.ref (N + 5)) (.ref T)) Q E s := by
  refine wpAny_letOwnedTupleGo_zip Z.z fun h' hz' hs' => hQ h' ?_ hs'
  have e := hs'.extBut
  obtain ⟨hz, hTI, ⟨a, b, d, hTO⟩, hi1, hi2, hi3, hl1, hl2⟩ := Z
  exact ⟨hz', e _ _ (by k_ne) hTI, ⟨a, b, d, e _ _ (by k_ne) hTO⟩, hi1.extBut e (by k_ne), hi2.extBut e (by k_ne), hi3.extBut e (by k_ne), hl1.extBut e (by k_ne), hl2.extBut e (by k_ne)⟩

theorem kturns_zip3 (hh : A.handled = none) {elts : List Expr} {kt} {pos : Pos} {N l1 l2 : Nat} {xs ys : Array Value} {x3 : Str} {t3 : Tok} (h1N : l1 < N) (h2N : l2 < N) {n : Nat} (hn1 : xs.size = n) (hn2 : ys.size = n) (hn3 : x3.cps.size = n) :
    KTurns prog w A (.Tuple elts kt pos) (N + 5) [N, N + 1, N + 2, N + 3, N + 4, N + 5, l1, l2] [N, N + 1, N + 2, N + 4, N + 5] n
      (fun i v h => ∃ T x y c t, v = .ref T ∧ xs[i]? = some x ∧ ys[i]? = some y ∧ x3.cps[i]? = some c ∧ IsTrip h T x y (.str ⟨#[c]⟩ t))
      (fun i v h => ∃ T x y c t, v = .ref T ∧ xs[i]? = some x ∧ ys[i]? = some y ∧ x3.cps[i]? = some c ∧ IsTrip h T x y (.str ⟨#[c]⟩ t) ∧ ZSt h N l1 l2 xs ys x3 t3 (rawInt T) (i + 1) ∧ N + 5 < T)
      (fun i h => ZSt h N l1 l2 xs ys x3 t3 .none i) where
  sub := fun b hb => by simp at hb ⊢; rcases hb with rfl | rfl | rfl | rfl | rfl <;> simp
  frame := fun i h h' Z hk => by
    obtain ⟨hz, hTI, ⟨a, b, d, hTO⟩, hi1, hi2, hi3, hl1, hl2⟩ := Z
    exact ⟨hk _ (by simp) _ hz, hk _ (by simp) _ hTI, ⟨a, b, d, hk _ (by simp) _ hTO⟩, hi1.at fun o e => hk _ (by simp) o e, hi2.at fun o e => hk _ (by simp) o e,
      (by obtain ⟨o, ho, r⟩ := hi3; exact ⟨o, hk _ (by simp) o ho, r⟩), hl1.at fun o e => hk _ (by simp) o e, hl2.at fun o e => hk _ (by simp) o e⟩
  item := fun i s Q E hi Z hQ => by
    have hx : xs[i]? = some xs[i] := Array.getElem?_eq_getElem (by omega)
    have hy : ys[i]? = some ys[i] := Array.getElem?_eq_getElem (by omega)
    have hc : x3.cps[i]? = some x3.cps[i] := Array.getElem?_eq_getElem (by omega)
    have hlt := Heap.lt_size Z.z
    refine pyNext_zip3_item h1N h2N Z hx hy hc fun h' t tk Z' hT hk => ?_
    refine hQ _ h' tk ⟨_, _, _, _, t, rfl, hx, hy, hc, hT, Z', hlt⟩ fun b o hb e => hk b o ?_ ?_ ?_ ?_ ?_ e <;> (intro q; exact hb (by simp [q]))
  go := fun i v s Q E hm hQ => by
    obtain ⟨T, x, y, c, t, rfl, hx, hy, hc, hT, Z, hlt⟩ := hm
    refine go_zip3 h1N h2N Z fun h' Z' hs' => hQ h' ⟨T, x, y, c, t, rfl, hx, hy, hc, hs'.extBut _ _ (Nat.ne_of_gt hlt) hT⟩ Z' fun b o hb e => hs'.extBut _ _ (fun q => hb (by simp [q])) e
  done := fun s Q E Z hQ => by
    refine pyNext_zip3_end hh h1N Z (Array.getElem?_eq_none (by omega)) fun h' hk => hQ h' s.toks fun b o hb e => hk b o ?_ ?_ e <;> (intro q; exact hb (by simp [q]))

abbrev z1H (h : Heap) (l1 : Addr) : Heap := h.push { cls := .type "list_iterator", data := .fields #[.ref l1, .int 0 0] }
abbrev z2H (h : Heap) (l1 l2 : Addr) : Heap := (z1H h l1).push { cls := .type "list_iterator", data := .fields #[.ref l2, .int 0 0] }
abbrev z3H (h : Heap) (l1 l2 : Addr) (x : Str) (t : Tok) : Heap := (z2H h l1 l2).push { cls := .type "str_ascii_iterator", data := .fields #[.str x t, .int 0 0] }
abbrev z4H (h : Heap) (l1 l2 : Addr) (x : Str) (t : Tok) : Heap := (z3H h l1 l2 x t).push { cls := .type "tuple", data := .seq #[.ref h.objs.size, .ref (z1H h l1).objs.size, .ref (z2H h l1 l2).objs.size] }
abbrev z5H (h : Heap) (l1 l2 : Addr) (x : Str) (t : Tok) : Heap := (z4H h l1 l2 x t).push { cls := .type "tuple", data := .seq #[.none, .none, .none] }
abbrev z6H (h : Heap) (l1 l2 : Addr) (x : Str) (t : Tok) : Heap := (z5H h l1 l2 x t).push { cls := .type "zip", data := .fields #[.none, .bool false, .bool false, .ref (z3H h l1 l2 x t).objs.size, .ref (z4H h l1 l2 x t).objs.size] }

theorem meets_zip3_new (l1 l2 : Addr) (xs ys : Array Value) (x : Str) (t : Tok) (ha : x.cps.all (· < 128) = true) :
    Meets (Builtin.«zip.__new__» ⟨[.type "zip", .ref l1, .ref l2, .str x t], []⟩) (fun _ R s => s.heap.IsList l1 xs ∧ s.heap.IsList l2 ys ∧
      R (.ok (.ret (.ref (z5H s.heap l1 l2 x t).objs.size))) { s with heap := z6H s.heap l1 l2 x t }) :=
  .of_wp fun prog w A R s h => by
    obtain ⟨hp, g, d, tk, os⟩ := s; obtain ⟨hl1, hl2, h⟩ := h
    have hsub := sub_zip
    have hL1 : Heap.IsList (Shared.heap ⟨hp, g, d, tk, os⟩) l1 xs := hl1
    have hL2 : Heap.IsList (Shared.heap ⟨hp.push { cls := .type "list_iterator", data := .fields #[.ref l1, .int 0 0] }, g, d, tk, os⟩) l2 ys := Heap.IsList.push hl2 _
    wp_walk using wpAny_pyIter_list hL1, wpAny_pyIter_list hL2, wpAny_pyIter_ascii ha
    exact ⟨_, rfl, h⟩
theorem typeCall_zip_3 (a b c : Value) : checkTypeCall "zip" ⟨[a, b, c], []⟩ = pure () := by kernel_rfl
theorem newCall_zip_3 (a b c : Value) : checkBuiltinCall "zip.__new__" ⟨[.type "zip", a, b, c], []⟩ = pure () := by kernel_rfl
theorem args_object_init_4 (a b c d : Value) : argsOk "object.__init__" ⟨[a, b, c, d], []⟩ := by
  unfold argsOk; rw [signature?_of (id := "object.__init__") (n := ['_', '_', 't', 'i', 'n', 'i', '_', '_']) (o := ['t', 'c', 'e', 'j', 'b', 'o']) (by kernel_rfl) F.owner_object]; kernel_rfl
theorem call_zip_3 {l1 l2 : Addr} {xs ys : Array Value} {x : Str} {t : Tok} {Q : Value → Shared → Prop} (ha : x.cps.all (· < 128) = true) (hl1 : s.heap.IsList l1 xs) (hl2 : s.heap.IsList l2 ys)
    (h : ∀ h', ZSt h' s.heap.objs.size l1 l2 xs ys x t .none 0 → h'.objs.size = s.heap.objs.size + 6 → Kp s.heap h' → Q (.ref (s.heap.objs.size + 5)) { s with heap := h' }) :
    wpAny (model prog w) A (call (.type "zip") [.ref l1, .ref l2, .str x t]) Q E s := by
  refine callType_new F.called_zip (by decide) (typeCall_zip_3 _ _ _) (newCall_zip_3 _ _ _) (fun obj => args_object_init_4 obj _ _ _) F.entry_zip_new
    (meets_zip3_new l1 l2 xs ys x t ha) ⟨hl1, hl2, ?_⟩
  have z1 : (z1H s.heap l1).objs.size = s.heap.objs.size + 1 := Heap.size_push ..
  have z2 : (z2H s.heap l1 l2).objs.size = s.heap.objs.size + 2 := by rw [Heap.size_push, z1]
  have z3 : (z3H s.heap l1 l2 x t).objs.size = s.heap.objs.size + 3 := by rw [Heap.size_push, z2]
  have z4 : (z4H s.heap l1 l2 x t).objs.size = s.heap.objs.size + 4 := by rw [Heap.size_push, z3]
  have z5 : (z5H s.heap l1 l2 x t).objs.size = s.heap.objs.size + 5 := by rw [Heap.size_push, z4]
  have z6 : (z6H s.heap l1 l2 x t).objs.size = s.heap.objs.size + 6 := by rw [Heap.size_push, z5]
  have g5 : (z6H s.heap l1 l2 x t).get? (z5H s.heap l1 l2 x t).objs.size = some _ := Heap.get?_push_size _ rfl
  have g4 : (z6H s.heap l1 l2 x t).get? (z4H s.heap l1 l2 x t).objs.size = some _ := Heap.get?_push_of_some _ (Heap.get?_push_size _ rfl)
  have g3 : (z6H s.heap l1 l2 x t).get? (z3H s.heap l1 l2 x t).objs.size = some _ := Heap.get?_push_of_some _ (Heap.get?_push_of_some _ (Heap.get?_push_size _ rfl))
  have g2 : (z6H s.heap l1 l2 x t).get? (z2H s.heap l1 l2).objs.size = some _ := Heap.get?_push_of_some _ (Heap.get?_push_of_some _ (Heap.get?_push_of_some _ (Heap.get?_push_size _ rfl)))
  have g1 : (z6H s.heap l1 l2 x t).get? (z1H s.heap l1).objs.size = some _ := Heap.get?_push_of_some _ (Heap.get?_push_of_some _ (Heap.get?_push_of_some _ (Heap.get?_push_of_some _ (Heap.get?_push_size _ rfl))))
  have g0 : (z6H s.heap l1 l2 x t).get? s.heap.objs.size = some _ := Heap.get?_push_of_some _ (Heap.get?_push_of_some _ (Heap.get?_push_of_some _ (Heap.get?_push_of_some _ (Heap.get?_push_of_some _ (Heap.get?_push_size _ rfl)))))
  have kp : Kp s.heap (z6H s.heap l1 l2 x t) := fun c o x => Heap.get?_push_of_some _ (Heap.get?_push_of_some _ (Heap.get?_push_of_some _ (Heap.get?_push_of_some _ (Heap.get?_push_of_some _ (Heap.get?_push_of_some _ x)))))
  show _ ∧ _
  rw [z3, z4, z5] at g5
  rw [z1, z2, z3] at g3
  rw [z4] at g4
  rw [z2] at g2
  rw [z1] at g1
  rw [z5]
  exact ⟨⟨_, g5, rfl⟩, h _ ⟨g5, g3, ⟨_, _, _, g4⟩, ⟨_, g0, rfl, rfl⟩, ⟨_, g1, rfl, rfl⟩, ⟨_, g2, rfl, rfl⟩, hl1.at fun o e => kp _ o e, hl2.at fun o e => kp _ o e⟩ z6 kp⟩
end
end Mine

-- Z4
namespace Mine
theorem topOff_Z4 : True := by
  w_top off
  trivial
end Mine
namespace Mine
open PySem PySem.W PyProof.Rows PySem.Calls PySem.Spec
section
variable {prog : Program} {w : World} {A : Around} {E : Value → Shared → Prop} {s : Shared} {env : Env}

theorem store_in {scope : Scope} {cl : List (Str × Addr)} {x : Str} {px : Pos} {C : Addr} {s₂ : Shared} {h₃ : Heap} {tk₃ : Nat} {v : Value} {m₃ : Str → Option Value} {Q : Unit → Shared → Prop}
    (hkind : scope.kind = .function) (hx : scope.names.lookup x = some .local) (hn : h₃.Ns C m₃)
    (h : ∀ h₄ tk₄, h₄.Ns C (fun y => if y = x then some v else m₃ y) → (∀ b o, b ≠ C → h₃.get? b = some o → h₄.get? b = some o) → Q () { s₂ with heap := h₄, toks := tk₄ }) :
    wpAny (model prog w) A (assign (.Name x px) (compEnvC scope cl C env) v) Q E { s₂ with heap := h₃, toks := tk₃ } :=
  wpAny_assign_Name (wpAny_storeName_local (lookup_relabel_local hx) hn (fun h₄ hn₄ hs₄ => h h₄ _ hn₄ fun b o hb e => hs₄.extBut b o hb e) (by simp [compEnvC, relabel, hkind]))

theorem vturn_names3 {elt : Expr} {ifs : List Expr} {scope : Scope} {cl : List (Str × Addr)} {x y z : Str} {px py pz pos : Pos} {kt : Nat} {C T : Addr} {s₂ : Shared} {h₃ : Heap} {tk₃ : Nat} {v1 v2 v3 : Value} {m₃ : Str → Option Value} {Jn : Heap → Prop} {Jy : Value → Heap → Prop} {Gn : Prop} {Gy : Value → Prop}
    (hh : A.handled = none) (hkind : scope.kind = .function) (hx : scope.names.lookup x = some .local) (hy : scope.names.lookup y = some .local) (hz : scope.names.lookup z = some .local) (hn : h₃.Ns C m₃)
    (hT : IsTrip h₃ T v1 v2 v3)
    (hJn : ∀ h, Gn → Jn h) (hJy : ∀ y h, Gy y → Jy y h)
    (turn : ∀ h₄ tk₄, h₄.Ns C (fun n => if n = z then some v3 else if n = y then some v2 else if n = x then some v1 else m₃ n) → (∀ b o, b ≠ C → h₃.get? b = some o → h₄.get? b = some o) → VTurn prog w A (compEnvC scope cl C env) elt ifs { s₂ with heap := h₄, toks := tk₄ } Gn Gy) :
    CTurn prog w A (compEnvC scope cl C env) (.Tuple [.Name x px, .Name y py, .Name z pz] kt pos) elt ifs C [] s₂ h₃ tk₃ (.ref T) Jn Jy := by
  have hTt : Heap.IsTuple h₃ T #[v1, v2, v3] := ⟨_, hT, rfl, _, rfl⟩
  refine wpAny_assign_Tuple hh hTt rfl rfl fun h₄ hext => ?_
  have k4 : Kp h₃ h₄ := fun b o e => hext b o (Nat.ne_of_lt (Heap.lt_size e)) e
  show wpAny _ _ (assignInOrder [assign (.Name x px) (compEnvC scope cl C env), assign (.Name y py) (compEnvC scope cl C env), assign (.Name z pz) (compEnvC scope cl C env)] [v1, v2, v3]) _ _ _
  refine assignInOrder_cons (store_in hkind hx (hn.keeps k4) fun h₅ tk₅ hn₅ k5 => ?_)
  refine assignInOrder_cons (store_in hkind hy hn₅ fun h₆ tk₆ hn₆ k6 => ?_)
  refine assignInOrder_cons (store_in hkind hz hn₆ fun h₇ tk₇ hn₇ k7 => ?_)
  refine assignInOrder_nil ?_
  have k37 : ∀ b o, b ≠ C → h₃.get? b = some o → h₇.get? b = some o := fun b o hb e => k7 b o hb (k6 b o hb (k5 b o hb (k4 b o e)))
  refine wpAny_mono (turn h₇ tk₇ hn₇ k37) (fun ok s₅ h₅ => ?_) fun _ _ e => e
  cases ok with
  | false =>
    obtain ⟨hg, h', tk', rfl, hk⟩ := h₅
    exact ⟨h', tk', _, rfl, fun b o hb _ e => hk b o (k37 b o hb e), hn₇.keeps hk, hJn _ hg⟩
  | true =>
    refine wpAny_mono h₅ (fun y s₆ h₆ => ?_) fun _ _ e => e
    obtain ⟨hg, h', tk', rfl, hk⟩ := h₆
    exact ⟨h', tk', _, rfl, fun b o hb _ e => hk b o (k37 b o hb e), hn₇.keeps hk, hJy _ _ hg⟩

/-- a comprehension over zip(list, list, text), its items plain values -/
theorem comp_zip3 {elt : Expr} {ifs : List Expr} {scope : Scope} {cl : List (Str × Addr)} {x y z : Str} {px py pz pos : Pos} {kt : Nat} {Q : Value → Shared → Prop} {l1 l2 N n : Nat} {xs ys : Array Value} {x3 : Str} {t3 : Tok} (G : Nat → List Value → Prop)
    (hh : A.handled = none) (Z : ZSt s.heap N l1 l2 xs ys x3 t3 .none 0) (h1N : l1 < N) (h2N : l2 < N) (hn1 : xs.size = n) (hn2 : ys.size = n) (hn3 : x3.cps.size = n) (hn : n ≤ 1000)
    (hkind : scope.kind = .function) (hx : scope.names.lookup x = some .local) (hy : scope.names.lookup y = some .local) (hz : scope.names.lookup z = some .local) (h0 : G 0 [])
    (turn : ∀ i vs v1 v2 c t C h₃ tk₃ (m₃ : Str → Option Value), i < n → G i vs → s.heap.objs.size ≤ C → xs[i]? = some v1 → ys[i]? = some v2 → x3.cps[i]? = some c →
      h₃.Ns C (fun n => if n = z then some (.str ⟨#[c]⟩ t) else if n = y then some v2 else if n = x then some v1 else m₃ n) → (∀ b o, b < N → s.heap.get? b = some o → h₃.get? b = some o) →
      VTurn prog w A (compEnvC scope cl C env) elt ifs { s with heap := h₃, toks := tk₃ } (G (i + 1) vs) (fun y => G (i + 1) (vs ++ [y])))
    (done : ∀ D h' tk' vs, G n vs → s.heap.objs.size ≤ D → h'.IsList D (List.toArray vs) → (∀ b o, b < N → s.heap.get? b = some o → h'.get? b = some o) → Q (.ref D) { s with heap := h', toks := tk' }) :
    wpAny (model prog w) A (pyIter (.ref (N + 5))) (fun it s₂ => CompAt prog w A env (.Tuple [.Name x px, .Name y py, .Name z pz] kt pos) elt ifs scope cl Q it s₂) E s := by
  refine wpAny_pyIter_zip Z.z ?_
  have lt : ∀ b, b ∈ [N, N + 1, N + 2, N + 3, N + 4, N + 5, l1, l2] → b < s.heap.objs.size := fun b hb => by
    have hz := ltN (Heap.lt_size Z.z)
    refine ltN ?_
    simp only [List.mem_cons, List.not_mem_nil, or_false] at hb
    rcases hb with rfl | rfl | rfl | rfl | rfl | rfl | rfl | rfl <;> omega
  refine ⟨N + 5, _, _, n, _, _, _, rfl, kturns_zip3 hh h1N h2N hn1 hn2 hn3, fun s' Q' E' st q => wpAny_pyIter_zip st.z q, Nat.le_trans hn (by decide), lt, Z, fun C D hC hD hDC => ?_⟩
  refine ⟨fun i vs _ => G i vs, fun _ _ => h0, fun _ _ _ _ _ h => h, ?_, ?_⟩
  · rintro i vs v h₃ tk₃ m₃ hi ⟨T, v1, v2, c, t, rfl, e1, e2, e3, hT⟩ _ hG hns _ hk
    refine vturn_names3 hh hkind hx hy hz hns hT (fun _ h => h) (fun _ _ h => h) fun h₄ tk₄ hn₄ hk₄ => ?_
    refine turn i vs v1 v2 c t C h₄ tk₄ _ hi hG hC e1 e2 e3 hn₄ fun b o hb e => hk₄ b o (Nat.ne_of_lt (Nat.lt_of_lt_of_le (Heap.lt_size e) hC)) (hk b o (fun hm => ?_) e)
    simp only [List.mem_cons, List.not_mem_nil, or_false] at hm
    have hb := ltN hb
    rcases hm with rfl | rfl | rfl | rfl | rfl <;> omega
  · intro h' tk' vs hl hG hk
    refine done D h' tk' vs hG hD hl.isList fun b o hb e => hk b o (fun hm => ?_) e
    simp only [List.mem_cons, List.not_mem_nil, or_false] at hm
    have hb := ltN hb
    rcases hm with rfl | rfl | rfl | rfl | rfl <;> omega
end
end Mine

-- T0
namespace Mine
theorem topOff_T0 : True := by
  w_top off
  trivial
end Mine
namespace Mine
open PySem PySem.W PyProof.Rows PySem.Calls PySem.Spec
open Builtin Builtin.Str
open Builtin Builtin.Str
theorem sub_lookup : isSubtype (.type "KeyError") (.type "LookupError") = pure true := by rw [isSubtype_type]; kernel_rfl
section
variable {prog : Program} {w : World} {A : Around} {E : Value → Shared → Prop} {s : Shared}
theorem lookup_hit {d : Addr} {c : Nat} {f : Int → Option Value} {x : Str} {u : Tok} {Q : Mapped → Shared → Prop} (hm : s.heap.MapOf (intKind prog w) d f) (hf : f c = some (.str x u))
    (h : ∀ tk, Q (.text x) { s with toks := tk }) : wpAny (model prog w) A (tableLookup (.ref d) c) Q E s := by
  unfold tableLookup
  refine wpAny_bind (wpAny_attempt (wpAny_bind (wpAny_mkInt (wpAny_getItem_of (intKind_is _ _ _ _) hm hf ?_))))
  exact wpAny_bind (wpAny_pure (wpAny_bind (wpAny_pure (wpAny_pure (h _)))))
theorem lookup_miss {d : Addr} {c : Nat} {f : Int → Option Value} {Q : Mapped → Shared → Prop} (hm : s.heap.MapOf (intKind prog w) d f) (hf : f c = none) (hd : (d == sysModules) = false) (hh : A.handled = none)
    (h : ∀ h' tk, Kp s.heap h' → Q .keep { s with heap := h', toks := tk }) : wpAny (model prog w) A (tableLookup (.ref d) c) Q E s := by
  unfold tableLookup
  refine wpAny_bind (wpAny_attempt (wpAny_bind (wpAny_mkInt (wpAny_getItem_missing_of (intKind_is _ _ _ _) hd hh hm hf fun h' e x => ?_))))
  obtain ⟨k, _, ob, t, ho, hc, _⟩ := x
  refine wpAny_bind (wpAny_isInstance (T := "KeyError") (b := true) ⟨ob, ho, hc⟩ sub_lookup ?_)
  exact wpAny_bind (wpAny_rule (wpAny_pure (h _ _ k)))
end
end Mine
namespace Mine
open PySem PySem.W PyProof.Rows PySem.Calls PySem.Spec
open Builtin Builtin.Str
open Builtin Builtin.Str
section
variable {prog : Program} {w : World} {A : Around} {E : Value → Shared → Prop} {s : Shared}
theorem translate_miss {d : Addr} {c : Nat} {t : Tok} {f : Int → Option Value} {Q : Value → Shared → Prop} (hc : c < 128) (hm : s.heap.MapOf (intKind prog w) d f) (hf : f c = none) (hd : (d == sysModules) = false) (hh : A.handled = none)
    (h : ∀ h' t' tk, Kp s.heap h' → Q (.str (tx [c]) t') { s with heap := h', toks := tk }) : wpAny (model prog w) A (call (.builtin "str.translate") [.str (tx [c]) t, .ref d]) Q E s := by
  refine wpAny_call_entry F.slot_str_translate (typeIs_str _ _ _) F.entry_str_translate ?_ (F.args_str_translate_2 _ _)
  unfold Builtin.«str.translate»
  wp_walk
  have hall : ((tx [c]).cps.all fun x => decide (x < 128)) = true := by simp [tx, hc]
  have hix : ∀ p, (tx [c]).cps[(tx [c]).cps.size - 1 - 0]'p = c := fun _ => rfl
  refine wpAny_ite_true (decide_eq_true hall) ?_
  dsimp only
  simp only [hix, List.lookup_nil]
  refine wpAny_bind (lookup_miss hm hf hd hh fun h' tk k => ?_)
  wp_walk
  exact ⟨_, rfl, h h' tk _ k⟩
theorem translate_two {d : Addr} {c a b : Nat} {t u : Tok} {f : Int → Option Value} {Q : Value → Shared → Prop} (hc : c < 128) (hm : s.heap.MapOf (intKind prog w) d f) (hf : f c = some (.str (tx [a, b]) u))
    (h : ∀ t' tk, Q (.str (tx [a, b]) t') { s with toks := tk }) : wpAny (model prog w) A (call (.builtin "str.translate") [.str (tx [c]) t, .ref d]) Q E s := by
  refine wpAny_call_entry F.slot_str_translate (typeIs_str _ _ _) F.entry_str_translate ?_ (F.args_str_translate_2 _ _)
  unfold Builtin.«str.translate»
  wp_walk
  have hall : ((tx [c]).cps.all fun x => decide (x < 128)) = true := by simp [tx, hc]
  have hix : ∀ p, (tx [c]).cps[(tx [c]).cps.size - 1 - 0]'p = c := fun _ => rfl
  refine wpAny_ite_true (decide_eq_true hall) ?_
  dsimp only
  simp only [hix, List.lookup_nil]
  refine wpAny_bind (lookup_hit hm hf fun tk => ?_)
  have hit2 : ∀ (tk : Nat) (Q : Mapped → Shared → Prop), (∀ tk', Q (.text (tx [a, b])) { s with toks := tk' }) → wpAny (model prog w) A.in1 (tableLookup (.ref d) c) Q E { s with toks := tk } := fun tk Q h => lookup_hit (s := { s with toks := tk }) hm hf h
  have htl : tooLong (0 + (tx [a, b]).length) = false := by rw [tx_len]; show tooLong 2 = false; decide +kernel
  wp_walk using hit2
  intro tk2
  wp_walk
  exact ⟨_, rfl, h tk2 _⟩
end
end Mine
namespace Mine
open PySem PySem.W PyProof.Rows PySem.Calls PySem.Spec
open Builtin Builtin.Str
open Builtin Builtin.Str
theorem getm_translate {prog : Program} {w : World} {A : Around} {E : Value → Shared → Prop} {s : Shared} {x : Str} {t : Tok} {pl : Sem Bool} {Q : Value × List Value → Shared → Prop} (h : Q (.builtin "str.translate", [.str x t]) s) : wpAny (model prog w) A (getMethod (.str x t) (Str.ofString "translate") pl) Q E s := by
  with_reducible exact GM.of (.str x t) (typeIs_str _ _ _) F.slot_str_translate F.type_str_translate GM.noRef h
end Mine

-- T1
namespace Mine
theorem topOff_T1 : True := by
  w_top off
  trivial
end Mine
namespace Mine
open PySem PySem.W PyProof.Rows PySem.Calls PySem.Spec
/-- list.append bound to a list -/
abbrev bndObj (l : Addr) : Obj := { cls := .type "builtin_function_or_method", data := .fields #[.builtin "list.append", .ref l] }
theorem slot_md_get : Slot "method_descriptor" "__get__" "method_descriptor.__get__" :=
  .of (owner := "method_descriptor") (n := "__get__") (by rw [typeLookup_type, builtinLookup_eq_fast]; kernel_rfl) (by decide +kernel) (by decide +kernel) (by decide +kernel)
    (by first | exact .inl (by decide +kernel) | exact .inr (by decide +kernel)) (by rw [isSubtype_type]; kernel_rfl)
theorem args_md_get (a b c : Value) : argsOk "method_descriptor.__get__" ⟨[a, b, c], []⟩ := by unfold argsOk; kernel_rfl
theorem md_set : typeLookup (.type "method_descriptor") "__set__" = pure none := by rw [typeLookup_type, builtinLookup_eq_fast]; kernel_rfl
theorem md_del : typeLookup (.type "method_descriptor") "__delete__" = pure none := by rw [typeLookup_type, builtinLookup_eq_fast]; kernel_rfl
theorem entry_md_get : entryFor table "method_descriptor.__get__" = some Builtin.«method_descriptor.__get__» := entryFor_of_tree (by kernel_rfl)
theorem sub_list_list : isSubtype (.type "list") (.type "list") = pure true := by rw [isSubtype_type]; kernel_rfl
section
variable {prog : Program} {w : World} {A : Around} {E : Value → Shared → Prop} {s : Shared}
theorem meets_ga_append (a : Addr) (xs : Array Value) (k : Nat) (sl : Array (Option Value)) (u : Tok) :
    Meets (Builtin.«object.__getattribute__» ⟨[.ref a, .str (Str.ofString "append") u], []⟩) (fun A R s => s.heap.get? a = some { cls := .type "list", dict := none, data := .seq xs k, slots := sl } ∧ ∀ h' m tk, h'.get? m = some (bndObj a) → s.heap.objs.size ≤ m → Kp s.heap h' → R (.ok (.ret (.ref m))) { s with heap := h', toks := tk }) :=
  Meets.of_wp fun prog w A R s hs => by
    obtain ⟨hp, g, d, tk, os⟩ := s
    obtain ⟨hx, hs⟩ := hs
    have hT : (⟨hp, g, d, tk, os⟩ : Shared).TypeIs (.ref a) "list" := ⟨_, hx, rfl⟩
    have hT2 : (⟨hp, g, d, tk, os⟩ : Shared).TypeIs (.builtin "list.append") "method_descriptor" := type_list_append
    have f1 := slot_list_append.lookup
    have f2 := type_list_append
    have f3 := slot_md_get.lookup
    have f4 := md_set
    have f5 := md_del
    have f6 := sub_list_list
    unfold Builtin.«object.__getattribute__»
    repeat (any_goals (first | assumption | wp_step))
    refine codeAny_call_builtin slot_md_get.plain entry_md_get (slot_md_get.check _ _ _ _ _ _ _ _ hT2 (args_md_get _ _ _) ?_)
    unfold Builtin.«method_descriptor.__get__»
    repeat (any_goals (first | assumption | wp_step))
    have ow : (".".intercalate ("list.append".cutAt '.').dropLast) = "list" := by
      have e0 : "list.append".cutAt '.' = ["list", "append"] := by first | rfl | decide +kernel
      rw [e0]; decide +kernel
    simp only [ow]
    repeat (any_goals (first | assumption | wp_step))
    exact ⟨_, rfl, hs _ _ _ (Heap.get?_push_size _ rfl) (Nat.le_refl _) fun b o e => Heap.get?_push_of_some _ e⟩
theorem getAttr_append {a : Addr} {items : Array Value} {Q : Value → Shared → Prop} (hl : s.heap.PlainList a items)
    (h : ∀ h' m tk, h'.get? m = some (bndObj a) → s.heap.objs.size ≤ m → Kp s.heap h' → Q (.ref m) { s with heap := h', toks := tk }) :
    wpAny (model prog w) A (getAttr (.ref a) (Str.ofString "append") true) Q E s := by
  obtain ⟨k, hx⟩ := hl
  obtain ⟨hp, g, d, tk, os⟩ := s
  have hT : ∀ tk', (⟨hp, g, d, tk', os⟩ : Shared).TypeIs (.ref a) "list" := fun _ => ⟨_, hx, rfl⟩
  have f3 := F.slot_list_getattribute.lookup
  have f4 := F.slot_list_getattribute.bind (.ref a)
  have f5 := am_list_getattr_none
  unfold getAttr getAttrBy
  repeat (any_goals (first | assumption | exact hT _ | ((with_reducible show wpAny _ _ (call (Value.builtin "list.__getattribute__") _ _) _ _ _); refine call_meets F.slot_list_getattribute (hT _) am_entry_list_getattribute (F.args_list_getattribute_2 _ _) (meets_ga_append a items _ _ _) ⟨hx, fun h' m tk' e1 e2 e3 => ?_⟩) | wp_step))
  show wpAny _ _ (handedOut (.ref m)) _ _ _
  exact wpAny_pure (h h' m tk' e1 e2 e3)
end
end Mine

-- T2
namespace Mine
theorem topOff_T2 : True := by
  w_top off
  trivial
end Mine
namespace Mine
open PySem PySem.W PyProof.Rows PySem.Calls PySem.Spec
section
variable {prog : Program} {w : World} {A : Around} {E : Value → Shared → Prop} {s : Shared}
theorem sub_list_module : isSubtype (.type "list") (.type "module") = pure false := by rw [isSubtype_type]; kernel_rfl
theorem sub_list_type : isSubtype (.type "list") (.type "type") = pure false := by rw [isSubtype_type]; kernel_rfl
theorem check_append {l : Addr} {x : Value} {o : Obj} {xs : Array Value} {n : Nat} {Q : Unit → Shared → Prop} (ho : s.heap.get? l = some o) (hc : o.cls = .type "list") (hd : o.data = .seq xs n) (h : Q () s) : wpAny (model prog w) A (checkBoundCall "list.append" ⟨[.ref l, x], []⟩) Q E s := by
  have hT : s.TypeIs (.ref l) "list" := ⟨_, ho, hc⟩
  have f1 := sub_list_module
  have f2 := sub_list_type
  have f3 : Manifest.varargsMethods.contains "list.append" = false := by decide +kernel
  unfold checkBoundCall
  repeat (any_goals (first | assumption | wp_step))
theorem codeAny_append {m l : Addr} {items : Array Value} {x : Value} {R : Result → Shared → Prop} {k : Nat} (hm : s.heap.get? m = some (bndObj l)) (hl : s.heap.get? l = some (listOf items k)) (hsz : items.size ≤ sizeLine)
    (hQ : ∀ h', h'.get? l = some (listOf (items.push x) (k + 1)) → Heap.SameBut l s.heap h' → R (.ok (.ret .none)) { s with heap := h' }) :
    codeAny (model prog w) A (.call (.ref m) ⟨[x], []⟩) R s := by
  refine codeAny_of_tree ?_
  show wpAny _ _ (load m >>= _) _ _ _
  refine wpAny_bind (wpAny_load hm ?_)
  show wpAny _ _ (checkBoundCall "list.append" ⟨[.ref l, x], []⟩ >>= fun _ => again (.builtin "list.append" ⟨[.ref l, x], []⟩)) _ _ _
  refine wpAny_bind (check_append hl rfl rfl ?_)
  refine wpAny_pure ⟨plainId_quiet (by decide +kernel) _, ?_⟩
  refine codeAny_builtin entry_list_append ?_
  show wpAny _ _ (updateSeq l (·.push x) >>= fun _ => ret .none) _ _ s
  have hz' : (items.push x).size ≤ sizeLine + 1 := by rw [Array.size_push]; exact Nat.succ_le_succ hsz
  refine wpAny_bind (wpAny_updateSeq (hz := hsz) (_hz' := hz') hl rfl (wpAny_pure (hQ _ ?_ (Heap.SameBut.update ..))))
  rw [Heap.get?_update_self _ hl (by rw [Obj.mapSeq_push_plain]; rfl), Obj.mapSeq_push_plain]
end
end Mine

-- W0
namespace Mine
theorem topOff_W0 : True := by
  w_top off
  trivial
end Mine
namespace Mine
open PySem PySem.W PyProof.Rows PySem.Calls PySem.Spec
/-- stops the walk ahead of a step that is to be taken by hand -/
def Hold (P : Prop) : Prop := P
theorem Hold.stop {P : Prop} (h : Hold P) : P := h
theorem Hold.go {P : Prop} (h : P) : Hold P := h
/-- the append to the second of the new objects -/
theorem append_News {w : World} {A : Around} {s : Shared} {R : Result → Shared → Prop} {h₀ : Heap} {L m l : Addr} {mm : Str → Option Value} {items : Array Value} {x : Value} {k : Nat} {rest : List (Addr × Obj)}
    (F : Fr h₀ L s.heap mm) (N : News h₀ L s.heap ((m, bndObj l) :: (l, listOf items k) :: rest)) (h1 : m ≠ l) (h2 : ∀ p ∈ rest, p.1 ≠ l) (hsz : items.size ≤ sizeLine)
    (hQ : ∀ h', Fr h₀ L h' mm → News h₀ L h' ((m, bndObj l) :: (l, listOf (items.push x) (k + 1)) :: rest) → R (.ok (.ret .none)) { s with heap := h' }) :
    codeAny (model PG w) A (.call (.ref m) ⟨[x], []⟩) R s :=
  codeAny_append (N.get (.head _)) (N.get (.tail _ (.head _))) hsz fun h' e hs => hQ h' (F.change hs (N _ (.tail _ (.head _))).2.1 (N _ (.tail _ (.head _))).2.2) (N.setSecond h1 h2 hs e)
end Mine
namespace Mine
open PySem PySem.W PyProof.Rows PySem.Calls PySem.Spec
theorem If_hold {M : Model} {A : Around} {E : Value → Shared → Prop} {s : Shared} {env : Env} {test : Expr} {body orelse : List Stmt} {pos : Pos} {Q : Flow → Shared → Prop}
    (h : wpAny M A (isTrue test env (eval test env)) (fun b s₂ => Hold (if b then wpAny M A (execs body env) Q E s₂ else wpAny M A (execs orelse env) Q E s₂)) E s) :
    wpAny M A (exec (.If test body orelse pos) env) Q E s := wpAny_If h
end Mine
namespace Mine
open PySem PySem.W PyProof.Rows PySem.Calls PySem.Spec
section
variable {M : Model} {A : Around} {E : Value → Shared → Prop} {s : Shared} {h₀ : Heap} {L : Addr} {news : List (Addr × Obj)}
def BndAt (u l : Addr) (h : Heap) : Prop := h.get? u = some (bndObj l)
theorem callWith_fieldsB {pos : Pos} {u l : Addr} {first : List Value} {args : List (Bool × Sem Value)} {Q : Value → Shared → Prop} (hplain : args.any (·.1) = false)
    (h : wpAny M A (evalArgs (.ref u) true args []) (fun x s₁ => BndAt u l s₁.heap ∧ wpAny M A (call (.ref u) (first ++ x.pos) x.kw) Q E s₁) E s) : wpAny M A (callWith pos (.ref u) first args []) Q E s := by
  unfold callWith
  refine wpAny_bind (wpAny_holding (wpAny_mono h (fun x s₁ h₁ => wpAny_bind (wpAny_standAt ?_)) fun _ _ x => x))
  obtain ⟨ho, hcall⟩ := h₁
  simp only [hplain, List.any_nil, Bool.or_false]
  refine wpAny_bind (m := keeperOf (.ref u)) ?_
  unfold keeperOf
  refine wpAny_bind (wpAny_load ho ?_)
  simp only [bndObj, show (Value.type "builtin_function_or_method" != Value.type "method") = true by decide, show (Value.type "builtin_function_or_method" == Value.type "builtin_function_or_method" || Value.type "builtin_function_or_method" == Value.type "method-wrapper") = true by decide, if_true]
  refine wpAny_pure ?_
  exact wpAny_bind (wpAny_mono hcall (fun r s₂ hr => wpAny_bind (wpAny_holding (wpAny_point (wpAny_pure hr)))) fun _ _ x => x)
theorem callWith_bnd {pos : Pos} {u l : Addr} {first : List Value} {env : Env} {e : Expr} {rest : List Expr} {Q : Value → Shared → Prop} (_N : News h₀ L s.heap news) (_hm : (u, bndObj l) ∈ news)
    (h : wpAny M A (spliced (backTo pos (starEach (e :: rest) env))) (fun vs s₁ => BndAt u l s₁.heap ∧ wpAny M A (call (.ref u) (first ++ vs)) Q E s₁) E s)
    (he : starEach (e :: rest) env = (false, eval e env) :: starEach rest env := by rfl) (hplain : (backTo pos (starEach rest env)).any (·.1) = false := by rfl) :
    wpAny M A (callWith pos (.ref u) first (backTo pos (starEach (e :: rest) env)) []) Q E s := by
  rw [he] at h ⊢
  refine callWith_fieldsB (l := l) (by show (false || (backTo pos (starEach rest env)).any (·.1)) = false; rw [hplain]; rfl) ?_
  exact evalArgs_plain h
theorem BndAt.of {h : Heap} {u l : Addr} (N : News h₀ L h news) (hm : (u, bndObj l) ∈ news) : BndAt u l h := N.get hm
end
end Mine

-- E0
namespace Mine
theorem topOff_E0 : True := by
  w_top off
  trivial
end Mine
namespace Mine
open PySem PySem.W PyProof.Rows PySem.Calls PySem.Spec
open Sem (wp)
open AutoSeq1 (wpAny_loadPart')
section
variable {prog : Program} {w : World} {A : Around} {E : Value → Shared → Prop} {s : Shared}
theorem nextOf_tup_item {it t : Addr} {i : Nat} {items} {x : Value} {Q : Value → Shared → Prop} (hit : s.heap.IsTupleIter it t i)
    (ht : s.heap.IsTuple t items) (hx : items[i]? = some x)
    (hQ : ∀ h', h'.IsTupleIter it t (i + 1) → Heap.SameBut it s.heap h' → Q x { s with heap := h' }) :
    wpAny (model prog w) A (Builtin.SmallTypes.nextOf (.ref it)) Q E s := by
  obtain ⟨o, ho, hc, hd⟩ := id hit
  obtain ⟨ol, hol, _, nl, hdl⟩ := ht
  unfold Builtin.SmallTypes.nextOf
  refine wpAny_bind (wpAny_callSpecial?_slot (name := Str.ofString "__next__") hit.typeIs F.slot_tuple_iterator_next
    (wpAny_call_entry F.slot_tuple_iterator_next hit.typeIs F.entry_tuple_iterator_next ?_ (F.args_tuple_iterator_next_1 _)))
  show wpAny _ _ (field (.ref it) 0 >>= _) _ _ s
  refine wpAny_bind (wpAny_field ho hd (x := .ref t) rfl ?_)
  show wpAny _ _ (if (Value.ref t == Value.none) = true then _ else _) _ _ s
  rw [if_neg (show ¬ ((Value.ref t == Value.none) = true) from Bool.false_ne_true)]
  show wpAny _ _ (field (.ref it) 1 >>= _) _ _ s
  refine wpAny_bind (wpAny_field ho hd (x := .int i 0) rfl ?_)
  show wpAny _ _ (seqItems? (.ref t) >>= _) _ _ s
  refine wpAny_bind (wpAny_seqItems hol hdl ?_)
  simp only [Int.toNat_natCast, hx]
  refine wpAny_bind (wpAny_setField ho hd (by simp) (wpAny_pure ⟨x, rfl, wpAny_pure (hQ _ ?_ (Heap.SameBut.update ..))⟩))
  exact ⟨_, Heap.get?_update_self _ ho (Obj.isFreed_of_fields (Obj.data_mapFields hd _)), (Obj.cls_mapFields ..).trans hc, by
    rw [Obj.data_mapFields hd]; simp [rawInt]⟩
theorem nextOf_tup_end {it t : Addr} {i : Nat} {items} {Q : Value → Shared → Prop} (hh : A.handled = none)
    (hit : s.heap.IsTupleIter it t i) (ht : s.heap.IsTuple t items) (hx : items[i]? = none)
    (hE : ∀ h' e, Heap.ExtBut it s.heap h' → (∃ o, h'.get? e = some o ∧ o.cls = .type "StopIteration") → E (.ref e) { s with heap := h' }) :
    wpAny (model prog w) A (Builtin.SmallTypes.nextOf (.ref it)) Q E s := by
  obtain ⟨o, ho, hc, hd⟩ := id hit
  obtain ⟨ol, hol, _, nl, hdl⟩ := ht
  unfold Builtin.SmallTypes.nextOf
  refine wpAny_bind (wpAny_callSpecial?_slot (name := Str.ofString "__next__") hit.typeIs F.slot_tuple_iterator_next
    (wpAny_call_entry F.slot_tuple_iterator_next hit.typeIs F.entry_tuple_iterator_next ?_ (F.args_tuple_iterator_next_1 _)))
  show wpAny _ _ (field (.ref it) 0 >>= _) _ _ s
  refine wpAny_bind (wpAny_field ho hd (x := .ref t) rfl ?_)
  show wpAny _ _ (if (Value.ref t == Value.none) = true then _ else _) _ _ s
  rw [if_neg (show ¬ ((Value.ref t == Value.none) = true) from Bool.false_ne_true)]
  show wpAny _ _ (field (.ref it) 1 >>= _) _ _ s
  refine wpAny_bind (wpAny_field ho hd (x := .int i 0) rfl ?_)
  show wpAny _ _ (seqItems? (.ref t) >>= _) _ _ s
  refine wpAny_bind (wpAny_seqItems hol hdl ?_)
  simp only [Int.toNat_natCast, hx]
  refine wpAny_bind (wpAny_rule (wpAny_bind (wpAny_setField ho hd (by simp) ?_)))
  show wpAny _ _ (newExc (.type "StopIteration") [] >>= _) _ _ _
  refine wpAny_bind ?_
  simp only [newExc, newTuple]
  refine wpAny_bind (wpAny_newObj_type ?_ (by size_fits))
  refine wpAny_bind (m := firstArgMember _ _) (wpAny_of_eq (a := Value.none) (by first | rfl | (simp only [firstArgMember]; rfl)) ?_)
  refine wpAny_newObj_type ?_ (by size_fits)
  simp only [raiseNew]
  refine wpAny_bind (wpAny_handled ?_)
  first | rw [show A.in1.handled = none from hh] | rw [hh]
  refine wpAny_bind (wpAny_pure (wpAny_throw ?_))
  exact hE _ _ (((Heap.SameBut.update ..).extBut.push _).push _) ⟨_, Heap.get?_push_size _ rfl, rfl⟩
end
theorem draws_tup {prog : Program} {w : World} {A : Around} (hh : A.handled = none) (it t : Addr) (hne : t ≠ it) (items : Array Value) :
    Draws prog w A it [it, t] items.size (fun i v => items[i]? = some v) (fun i h => h.IsTupleIter it t i ∧ h.IsTuple t items) where
  live := fun _ _ st => let ⟨o, ho, _⟩ := st.1; ⟨o, ho⟩
  frame := fun _ _ _ st hk => by
    obtain ⟨⟨o, ho, r⟩, ⟨o2, ho2, r2⟩⟩ := st
    exact ⟨⟨o, hk it (by simp) o ho, r⟩, ⟨o2, hk t (by simp) o2 ho2, r2⟩⟩
  item := fun i s Q E hi st hQ => by
    refine nextOf_tup_item st.1 st.2 (x := items[i]) (by simp [hi]) fun h' hit' hs' => ?_
    exact hQ _ h' s.toks (by simp [hi]) ⟨hit', st.2.extBut hs'.extBut hne⟩ hs'
  done := fun s Q E st hE => nextOf_tup_end hh st.1 st.2 (by simp) hE
theorem meets_enum_tup (l : Addr) (items : Array Value) (n : Nat) (dct : Option Addr) (sl : Array (Option Value)) :
    Meets (Builtin.«enumerate.__new__» ⟨[.type "enumerate", .ref l], []⟩) (fun _ R s => s.heap.get? l = some { cls := .type "tuple", dict := dct, data := .seq items n, slots := sl } ∧
      R (.ok (.ret (.ref (s.heap.push { cls := .type "tuple_iterator", data := .fields #[.ref l, .int 0 0] }).objs.size)))
        { s with heap := (s.heap.push { cls := .type "tuple_iterator", data := .fields #[.ref l, .int 0 0] }).push { cls := .type "enumerate", data := .fields #[.none, .bool false, .ref s.heap.objs.size, rawInt 0, .none, .none] } }) :=
  .of_wp fun prog w A R s h => by
    obtain ⟨hp, g, d, tk, os⟩ := s; obtain ⟨hl, h⟩ := h
    have hsub := sub_enumerate
    have hL : Heap.IsTuple (Shared.heap ⟨hp, g, d, tk, os⟩) l items := ⟨_, hl, rfl, n, rfl⟩
    wp_walk using wpAny_loadPart' hl
    refine wpAny_stack_any fun st => wpAny_pure ?_
    split
    · rename_i c _ _ _ _ _
      cases (c == Value.type "enumerate")
      · wp_walk using wpAny_loadPart' hl, wpAny_pyIter_tuple hL
        exact ⟨_, rfl, h⟩
      · wp_walk using wpAny_loadPart' hl, wpAny_pyIter_tuple hL
        exact ⟨_, rfl, h⟩
    · wp_walk using wpAny_loadPart' hl, wpAny_pyIter_tuple hL
      exact ⟨_, rfl, h⟩
section
variable {prog : Program} {w : World} {A : Around} {E : Value → Shared → Prop} {s : Shared}
theorem call_enum_tup {l : Addr} {items : Array Value} {Q : Value → Shared → Prop} (hL : s.heap.IsTuple l items)
    (h : ∀ h', IsEnum h' (s.heap.objs.size + 1) s.heap.objs.size 0 .none → h'.IsTupleIter s.heap.objs.size l 0 → h'.objs.size = s.heap.objs.size + 2 →
      (∀ b o, s.heap.get? b = some o → h'.get? b = some o) → Q (.ref (s.heap.objs.size + 1)) { s with heap := h' }) :
    wpAny (model prog w) A (call (.type "enumerate") [.ref l]) Q E s := by
  obtain ⟨⟨c, dct, dt, sl⟩, hl, hc, n, hd⟩ := hL
  replace hc : c = .type "tuple" := hc
  replace hd : dt = .seq items n := hd
  subst hc hd
  refine callType_new F.called_enumerate (by decide) (F.typeCall_enumerate_1 _) (F.newCall_enumerate_1 _) (fun obj => F.args_object_init_2 obj _) F.entry_enumerate_new
    (meets_enum_tup l items n dct sl) ⟨hl, ?_⟩
  have hz : (s.heap.push { cls := .type "tuple_iterator", data := .fields #[.ref l, .int 0 0] }).objs.size = s.heap.objs.size + 1 := Heap.size_push ..
  show _ ∧ _
  rw [hz]
  have he : IsEnum ((s.heap.push { cls := .type "tuple_iterator", data := .fields #[.ref l, .int 0 0] }).push
      { cls := .type "enumerate", data := .fields #[.none, .bool false, .ref s.heap.objs.size, rawInt 0, .none, .none] }) (s.heap.objs.size + 1) s.heap.objs.size 0 .none := by
    have := Heap.get?_push_size (s.heap.push { cls := .type "tuple_iterator", data := .fields #[.ref l, .int 0 0] })
      (o := { cls := .type "enumerate", data := .fields #[.none, .bool false, .ref s.heap.objs.size, rawInt 0, .none, .none] }) rfl
    rw [hz] at this; exact this
  refine ⟨⟨_, he, rfl⟩, h _ he ⟨_, Heap.get?_push_of_some _ (Heap.get?_push_size _ rfl), rfl, rfl⟩ (by rw [Heap.size_push, hz]) fun b o x => Heap.get?_push_of_some _ (Heap.get?_push_of_some _ x)⟩
end
end Mine

-- T3
namespace Mine
theorem topOff_T3 : True := by
  w_top off
  trivial
end Mine
namespace Mine
open PySem PySem.W PyProof.Rows PySem.Calls PySem.Spec
abbrev starObj : Obj := { cls := .type "object", data := .plain }
theorem mro_object : mroOf (.type "object") = pure [.type "object"] := by kernel_rfl
theorem lookup_object_new : typeLookup (.type "object") "__new__" = pure (some (.builtin "object.__new__")) := by rw [typeLookup_type, builtinLookup_eq_fast]; kernel_rfl
theorem slot_object_init : Slot "object" "__init__" "object.__init__" :=
  .of (owner := "object") (n := "__init__") (by rw [typeLookup_type, builtinLookup_eq_fast]; kernel_rfl) (by decide +kernel) (by decide +kernel) (by decide +kernel)
    (by first | exact .inl (by decide +kernel) | exact .inr (by decide +kernel)) (by rw [isSubtype_type]; kernel_rfl)
theorem called_object : TypeCalled "object" "object.__new__" "object.__init__" :=
  ⟨by decide +kernel, by decide +kernel, ⟨_, _, mro_object⟩, madeBy_type mro_object lookup_object_new (by decide +kernel), by decide +kernel, (by rw [isSubtype_type]; kernel_rfl), slot_object_init⟩
theorem typeCall_object : checkTypeCall "object" ⟨[], []⟩ = pure () := by kernel_rfl
theorem newCall_object : checkBuiltinCall "object.__new__" ⟨[.type "object"], []⟩ = pure () := by kernel_rfl
theorem madeHere_object : Bind.madeHere "object.__new__" (.type "object") = pure () := by kernel_rfl
theorem isType_object : isType (.type "object") = pure true := by first | rfl | kernel_rfl | (unfold isType; rw [isSubtype_type]; kernel_rfl)
theorem initOk_object (o : Value) : argsOk "object.__init__" ⟨[o], []⟩ := by unfold argsOk; kernel_rfl
theorem new_object : Meets (Builtin.«object.__new__» ⟨[.type "object"], []⟩) (fun _ R s => R (.ok (.ret (.ref s.heap.objs.size))) { s with heap := s.heap.push starObj }) :=
  Meets.of_wp fun prog w A R s hs => by
    have f1 := isType_object
    have f2 := madeHere_object
    unfold Builtin.«object.__new__»
    repeat (any_goals (first | assumption | wp_step))
    exact ⟨_, rfl, hs⟩
theorem init_object (o : Value) : Meets (Builtin.«object.__init__» ⟨[o], []⟩) (fun _ R s => R (.ok (.ret .none)) s) :=
  Meets.of_wp fun prog w A R s hs => by
    unfold Builtin.«object.__init__»
    repeat (any_goals (first | assumption | wp_step))
    exact ⟨_, rfl, hs⟩
section
variable {prog : Program} {w : World} {A : Around} {E : Value → Shared → Prop} {s : Shared}
theorem call_object {Q : Value → Shared → Prop} (h : Q (.ref s.heap.objs.size) { s with heap := s.heap.push starObj }) : wpAny (model prog w) A (call (.type "object") []) Q E s := by
  refine callType_meets (Q₁ := fun v s₁ => v = .ref s.heap.objs.size ∧ s₁ = { s with heap := s.heap.push starObj }) called_object typeCall_object newCall_object F.entry_object_new F.entry_object_init new_object ⟨rfl, rfl⟩ ?_
  rintro obj s₁ ⟨rfl, rfl⟩
  exact ⟨⟨_, Heap.get?_push_size _ rfl, rfl⟩, initOk_object _, _, init_object _, rfl, h⟩
end
end Mine

-- C1
namespace Mine
theorem topOff_C1 : True := by
  w_top off
  trivial
end Mine
namespace Mine
open PySem PySem.W PyProof.Rows PySem.Calls
/-- what _law_number gives -/
def number (k u l : Int) : Int := ([1, 2, 4, 6, 8, 10, 12] : List Int).getD (k.fmod 7).toNat 0 * 4096 + u * 64 + l
theorem c_number {w : World} {p : Program} {loose : List Str} {mean : ExcName → Option Value} {mg mb : Str → Option Value} {A : Around} {s : Shared} {R : Result → Shared → Prop} {k u l : Int} {tk tu tl : Tok} (hk : 0 ≤ k ∧ k < 64) (hu : 0 ≤ u ∧ u < 64) (hl : 0 ≤ l ∧ l < 64)
    (X : (KK w.params).In s.heap) (T : Top p loose mean mg mb s.heap) (hA : Rm A 1)
    (ret : ∀ t h' tk', Kp s.heap h' → R (.ok (.ret (.int (number k u l) t))) { s with heap := h', toks := tk' }) :
    codeAny (model PG w) A (.call (.ref 150) ⟨[.int k tk, .int u tu, .int l tl], []⟩) R s := by
  refine fill ?_
  k_fill
  intro _
  obtain ⟨hh, hdp, hun⟩ := hA
  refine' enter (binds := [(Str.ofString "kind", .int k tk), (Str.ofString "upper", .int u tu), (Str.ofString "lower", .int l tl)]) ?k3 ?k5 ?k8 ?k6 ?k7 ?k9 ?kB ?_ ?c2 ?c3 ?c4 ?c5
  case k3 => exact X
  case k5 => exact T
  case k6 => k_is
  case k7 => k_is
  case k8 => (simp only [recursionLimit]; omega)
  case k9 => exact BindsTo.of_eq rfl
  case kB => exact locs rfl
  case c2 => exact rfl
  case c3 => exact rfl
  case c4 => exact rfl
  case c5 => decide
  intro L h₁ F N
  try dsimp only
  try k_fold

  have hq : (0 ≤ k.fmod 7 ∧ k.fmod 7 < 7) := ⟨Int.fmod_nonneg_of_pos _ (by omega), Int.fmod_lt_of_pos _ (by omega)⟩
  k_steps
  all_goals ((rename Fr _ _ _ _ => F9); (rename (Int.fmod _ _ = _) => e9); refine finI (s := s) ret F9.keep ?_; simp only [number, e9]; rfl)
end Mine

-- C3
namespace Mine
theorem topOff_C3 : True := by
  w_top off
  trivial
end Mine
namespace Mine
open PySem PySem.W PyProof.Rows PySem.Calls
/-- the middle of three -/
def med (a b c : Nat) : Nat := max (min a b) (min (max a b) c)
theorem perm2 {p q x y : Str} (h : [p, q].Perm [x, y]) : (p = x ∧ q = y) ∨ (p = y ∧ q = x) := by
  have hp : p ∈ [x, y] := h.mem_iff.mp (by simp)
  simp only [List.mem_cons, List.not_mem_nil, or_false] at hp
  rcases hp with rfl | rfl
  · have h2 := h.cons_inv
    exact .inl ⟨rfl, by simpa using h2⟩
  · have h2 : [p, q].Perm [p, x] := h.trans (List.Perm.swap p x [])
    exact .inr ⟨rfl, by simpa using h2.cons_inv⟩
theorem perm3 {p q r x y z : Str} (h : [p, q, r].Perm [x, y, z]) : (p = x ∧ q = y ∧ r = z) ∨ (p = x ∧ q = z ∧ r = y) ∨ (p = y ∧ q = x ∧ r = z) ∨ (p = y ∧ q = z ∧ r = x) ∨ (p = z ∧ q = x ∧ r = y) ∨ (p = z ∧ q = y ∧ r = x) := by
  have hp : p ∈ [x, y, z] := h.mem_iff.mp (by simp)
  simp only [List.mem_cons, List.not_mem_nil, or_false] at hp
  rcases hp with rfl | rfl | rfl
  · rcases perm2 h.cons_inv with ⟨rfl, rfl⟩ | ⟨rfl, rfl⟩
    · exact .inl ⟨rfl, rfl, rfl⟩
    · exact .inr (.inl ⟨rfl, rfl, rfl⟩)
  · have h2 : [p, q, r].Perm [p, x, z] := h.trans (List.Perm.swap p x [z])
    rcases perm2 h2.cons_inv with ⟨rfl, rfl⟩ | ⟨rfl, rfl⟩
    · exact .inr (.inr (.inl ⟨rfl, rfl, rfl⟩))
    · exact .inr (.inr (.inr (.inl ⟨rfl, rfl, rfl⟩)))
  · have h1 : [x, y, p].Perm [x, p, y] := (List.Perm.swap p y []).cons x
    have h2 : [p, q, r].Perm [p, x, y] := (h.trans h1).trans (List.Perm.swap p x [y])
    rcases perm2 h2.cons_inv with ⟨rfl, rfl⟩ | ⟨rfl, rfl⟩
    · exact .inr (.inr (.inr (.inr (.inl ⟨rfl, rfl, rfl⟩))))
    · exact .inr (.inr (.inr (.inr (.inr ⟨rfl, rfl, rfl⟩))))
theorem med_of {ss : List Str} {a b c : Nat} (hp : ss.Perm [⟨#[a]⟩, ⟨#[b]⟩, ⟨#[c]⟩]) (hs : sortedS ss = true) : ∃ x y z, ss = [x, y, z] ∧ y = ⟨#[med a b c]⟩ := by
  have hlen : ss.length = 3 := hp.length_eq
  match ss, hlen with
  | [p, q, r], _ =>
    refine ⟨p, q, r, rfl, ?_⟩
    have hs' : (!PySem.Spec.ltCps q.cps.toList p.cps.toList && (!PySem.Spec.ltCps r.cps.toList q.cps.toList && true)) = true := hs
    rcases perm3 hp with ⟨rfl, rfl, rfl⟩ | ⟨rfl, rfl, rfl⟩ | ⟨rfl, rfl, rfl⟩ | ⟨rfl, rfl, rfl⟩ | ⟨rfl, rfl, rfl⟩ | ⟨rfl, rfl, rfl⟩ <;>
      (simp [PySem.Spec.ltCps] at hs'; simp only [med, Str.mk.injEq, Array.mk.injEq, List.cons.injEq, and_true]; omega)

theorem c_med_low {w : World} {p : Program} {loose : List Str} {mean : ExcName → Option Value} {mg mb : Str → Option Value} {A : Around} {s : Shared} {R : Result → Shared → Prop} {l : Addr} {vs : List Value} {a b c : Nat} (hl : s.heap.IsList l vs.toArray) (hS : StrsAre vs [⟨#[a]⟩, ⟨#[b]⟩, ⟨#[c]⟩])
    (X : (KK w.params).In s.heap) (T : Top p loose mean mg mb s.heap) (hA : Rm A 1)
    (ret : ∀ t h' tk', Kp s.heap h' → R (.ok (.ret (.str ⟨#[med a b c]⟩ t))) { s with heap := h', toks := tk' }) :
    codeAny (model PG w) A (.call (.ref 51) ⟨[.ref l], []⟩) R s := by
  refine fill ?_
  k_fill
  intro _
  obtain ⟨hh, hdp, hun⟩ := hA
  refine' enter (binds := [(Str.ofString "data", .ref l)]) ?k3 ?k5 ?k8 ?k6 ?k7 ?k9 ?kB ?_ ?c2 ?c3 ?c4 ?c5
  case k3 => exact X
  case k5 => exact T
  case k6 => k_is
  case k7 => k_is
  case k8 => (simp only [recursionLimit]; omega)
  case k9 => exact BindsTo.of_eq rfl
  case kB => exact locs rfl
  case c2 => exact rfl
  case c3 => exact rfl
  case c4 => exact rfl
  case c5 => decide
  intro L h₁ F N
  try dsimp only
  try k_fold

  k_steps
  have hl1 := hl.at fun o e => F.keep l o e
  have hlen : vs.length = 3 := StrsAre.length hS
  refine sorted_N_str F N hl1 hS (by omega) fun h2 vs2 ss2 e2 F2 N2 hS2 hp2 hs2 => ?_
  obtain ⟨x, y, z, rfl, hm⟩ := med_of hp2 hs2
  obtain ⟨t1, r1, rfl, hr1⟩ := StrsAre.cons_inv hS2
  obtain ⟨t2, r2, rfl, hr2⟩ := StrsAre.cons_inv hr1
  obtain ⟨t3, r3, rfl, hr3⟩ := StrsAre.cons_inv hr2
  obtain rfl := StrsAre.nil_inv hr3
  try dsimp only
  try k_fold
  k_steps
  all_goals ((rename Fr _ _ _ _ => F9); refine finS (s := s) ret F9.keep ?_; exact hm)

theorem c_med_high {w : World} {p : Program} {loose : List Str} {mean : ExcName → Option Value} {mg mb : Str → Option Value} {A : Around} {s : Shared} {R : Result → Shared → Prop} {l : Addr} {vs : List Value} {a b c : Nat} (hl : s.heap.IsList l vs.toArray) (hS : StrsAre vs [⟨#[a]⟩, ⟨#[b]⟩, ⟨#[c]⟩])
    (X : (KK w.params).In s.heap) (T : Top p loose mean mg mb s.heap) (hA : Rm A 1)
    (ret : ∀ t h' tk', Kp s.heap h' → R (.ok (.ret (.str ⟨#[med a b c]⟩ t))) { s with heap := h', toks := tk' }) :
    codeAny (model PG w) A (.call (.ref 58) ⟨[.ref l], []⟩) R s := by
  refine fill ?_
  k_fill
  intro _
  obtain ⟨hh, hdp, hun⟩ := hA
  refine' enter (binds := [(Str.ofString "data", .ref l)]) ?k3 ?k5 ?k8 ?k6 ?k7 ?k9 ?kB ?_ ?c2 ?c3 ?c4 ?c5
  case k3 => exact X
  case k5 => exact T
  case k6 => k_is
  case k7 => k_is
  case k8 => (simp only [recursionLimit]; omega)
  case k9 => exact BindsTo.of_eq rfl
  case kB => exact locs rfl
  case c2 => exact rfl
  case c3 => exact rfl
  case c4 => exact rfl
  case c5 => decide
  intro L h₁ F N
  try dsimp only
  try k_fold

  k_steps
  have hl1 := hl.at fun o e => F.keep l o e
  have hlen : vs.length = 3 := StrsAre.length hS
  refine sorted_N_str F N hl1 hS (by omega) fun h2 vs2 ss2 e2 F2 N2 hS2 hp2 hs2 => ?_
  obtain ⟨x, y, z, rfl, hm⟩ := med_of hp2 hs2
  obtain ⟨t1, r1, rfl, hr1⟩ := StrsAre.cons_inv hS2
  obtain ⟨t2, r2, rfl, hr2⟩ := StrsAre.cons_inv hr1
  obtain ⟨t3, r3, rfl, hr3⟩ := StrsAre.cons_inv hr2
  obtain rfl := StrsAre.nil_inv hr3
  try dsimp only
  try k_fold
  k_steps
  all_goals ((rename Fr _ _ _ _ => F9); refine finS (s := s) ret F9.keep ?_; exact hm)

end Mine

-- C4
namespace Mine
theorem topOff_C4 : True := by
  w_top off
  trivial
end Mine
namespace Mine
open PySem PySem.W PyProof.Rows PySem.Calls PySem.Spec
local macro_rules | `(tactic| walk_at "none such") => `(tactic| skip)
local macro_rules | `(tactic| walk_at "none such") => `(tactic| skip)
local macro_rules | `(tactic| walk_at "none such") => `(tactic| skip)
local macro_rules | `(tactic| walk_at "none such") => `(tactic| skip)
local macro_rules | `(tactic| walk_at "none such") => `(tactic| skip)
local macro_rules | `(tactic| walk_at "none such") => `(tactic| skip)
local macro_rules | `(tactic| walk_at "none such") => `(tactic| skip)
local macro_rules | `(tactic| walk_at "none such") => `(tactic| skip)
local macro_rules | `(tactic| walk_at "none such") => `(tactic| skip)
local macro_rules | `(tactic| walk_at "none such") => `(tactic| skip)
local macro_rules | `(tactic| walk_at "none such") => `(tactic| skip)
local macro_rules | `(tactic| walk_at "eval ListComp") => `(tactic| ((with_reducible refine' comp_eval ?hclos ?hcell ?hkind ?hnames ?hs ?_); (case hclos => with_unfolding_all rfl); (case hcell => decide); (case hkind => with_unfolding_all rfl); (case hnames => decide); (case hs => intro _; with_unfolding_all rfl)))
local macro_rules | `(tactic| walk_at "newList") => `(tactic| (refine newList_X (by assumption) (by assumption) ?_; intro _ _ _ _))
local macro_rules | `(tactic| walk_at "call ref") => `(tactic| (refine wpAny_call ?_))

theorem c_third {w : World} {p : Program} {loose : List Str} {mean : ExcName → Option Value} {mg mb : Str → Option Value} {A : Around} {s : Shared} {R : Result → Shared → Prop} {x1 x2 x3 : Str} {t1 t2 t3 : Tok} (h1 : x1.length = 10) (h2 : x2.length = 10) (h3 : x3.length = 10)
    (X : (KK w.params).In s.heap) (T : Top p loose mean mg mb s.heap) (hA : Rm A 2)
    (ret : ∀ t h' tk', Kp s.heap h' → R (.ok (.ret (.str (tx ((List.range 10).map fun k => med (x1.cps.getD k 0) (x2.cps.getD k 0) (x3.cps.getD k 0))) t))) { s with heap := h', toks := tk' }) :
    codeAny (model PG w) A (.call (.ref 191) ⟨[.str x1 t1, .str x2 t2, .str x3 t3], []⟩) R s := by
  refine fill ?_
  k_fill
  intro _
  have hA0 := hA
  obtain ⟨hh, hdp, hun⟩ := hA
  refine' enterC (binds := [(Str.ofString "one", .str x1 t1), (Str.ofString "two", .str x2 t2), (Str.ofString "three", .str x3 t3)]) ?k3 ?k5 ?k8 ?k6 ?k7 ?k9 ?kB ?kD ?_ ?c2 ?c3 ?c4
  case k3 => exact X
  case k5 => exact T
  case k6 => k_is
  case k7 => k_is
  case k8 => (simp only [recursionLimit]; omega)
  case k9 => exact BindsTo.of_eq rfl
  case kB => exact rfl
  case kD => decide +kernel
  case c2 => exact rfl
  case c3 => exact rfl
  case c4 => exact rfl
  intro L h₁ tk₁ cells F N Y
  obtain ⟨oc1, oc2, oc3, hE, dc1, dc2, dc3⟩ := CellsAre.three Y
  subst hE
  clear Y
  have dc1 : oc1.data = .cell (some (.str x3 t3)) := dc1
  have dc2 : oc2.data = .cell (some (.str x2 t2)) := dc2
  have dc3 : oc3.data = .cell (some (.str x1 t1)) := dc3
  have F : Fr s.heap L h₁ (fun _ => none) := F
  try dsimp only
  try k_fold

  k_steps
  rename IsRange _ _ _ _ _ _ _ _ => hr
  rename Fr _ _ _ _ => F1
  rename News _ _ _ _ => N1
  refine comp_range (n := 10) (fun i ys => StrsAre ys ((List.range i).map fun k => ⟨#[med (x1.cps.getD k 0) (x2.cps.getD k 0) (x3.cps.getD k 0)]⟩)) hh hr (by decide) rfl rfl .nil ?_ ?_
  · intro i ys t C h₃ tk₃ m₃ hi hG hC hns hm hk
    have F3 := frC F1 hns hC hk
    have N3 := nwC N1 hC hk
    unfold VTurn
    refine wpAny_tests_nil ?_
    simp only [if_true]
    k_fold
    k_steps
    rename Fr _ _ _ _ => F5
    rename News _ _ _ _ => N5
    rename Kp _ _ => K5
    have e1 : Txt.item x1 ↑i = ⟨#[x1.cps.getD i 0]⟩ := item_at (by omega) (by omega) (by omega)
    have e2 : Txt.item x2 ↑i = ⟨#[x2.cps.getD i 0]⟩ := item_at (by omega) (by omega) (by omega)
    have e3 : Txt.item x3 ↑i = ⟨#[x3.cps.getD i 0]⟩ := item_at (by omega) (by omega) (by omega)
    rw [e1, e2, e3] at N5
    refine c_med_low (News.isList N5 (.head _)) (.cons _ _ (.cons _ _ (.cons _ _ .nil))) (X.keeps F5.keep) (T.keeps F5.keep) hA0.deeper fun t' h' tk' k' => ?_
    refine ⟨?_, keeps_of (kp_trans K5 k')⟩
    rw [List.range_succ, List.map_append]
    exact StrsAre.append' hG (.cons _ _ .nil)
  · intro D h' tk' ys hG hD hl hk
    have F6 := F1.keeps hk
    have N6 := N1.grown hk
    try dsimp only
    try k_fold
    k_steps
    refine join_signs (l := (List.range 10).map fun k => med (x1.cps.getD k 0) (x2.cps.getD k 0) (x3.cps.getD k 0)) hl (by rw [List.map_map]; exact hG) (by simp) fun t k => ?_
    exact ret _ _ _ (kp_trans F1.keep hk)
end Mine

-- C5
namespace Mine
theorem topOff_C5 : True := by
  w_top off
  trivial
end Mine
namespace Mine
open PySem PySem.W PyProof.Rows PySem.Calls PySem.Spec
local macro_rules | `(tactic| walk_at "eval ListComp") => `(tactic| ((with_reducible refine' comp_eval ?hclos ?hcell ?hkind ?hnames ?hs ?_); (case hclos => with_unfolding_all rfl); (case hcell => decide); (case hkind => with_unfolding_all rfl); (case hnames => decide); (case hs => intro _; with_unfolding_all rfl)))
local macro_rules | `(tactic| walk_at "newList") => `(tactic| (refine newList_X (by assumption) (by assumption) ?_; intro _ _ _ _))
local macro_rules | `(tactic| walk_at "call ref") => `(tactic| (refine wpAny_call ?_))

/-- a pattern's signs as _law_signs takes them -/
def sgn (x : Str) (low high : Int) : List Nat := (List.range 10).map fun k => if (Int.fdiv (low + 64 * high) (2 ^ k)).fmod 2 = 1 then x.cps.getD k 0 else 63
theorem c_signs {w : World} {p : Program} {loose : List Str} {mean : ExcName → Option Value} {mg mb : Str → Option Value} {A : Around} {s : Shared} {R : Result → Shared → Prop} {x : Str} {t1 t2 t3 : Tok} {low high : Int} (h1 : x.length = 10) (hlo : 0 ≤ low ∧ low < 64) (hhi : 0 ≤ high ∧ high < 64)
    (X : (KK w.params).In s.heap) (T : Top p loose mean mg mb s.heap) (hA : Rm A 2)
    (ret : ∀ D vs h' tk', Kp s.heap h' → s.heap.objs.size ≤ D → h'.IsList D (List.toArray vs) → StrsAre vs ((sgn x low high).map fun c => tx [c]) → R (.ok (.ret (.ref D))) { s with heap := h', toks := tk' }) :
    codeAny (model PG w) A (.call (.ref 162) ⟨[.str x t1, .int low t2, .int high t3], []⟩) R s := by
  refine fill ?_
  k_fill
  intro _
  have hA0 := hA
  obtain ⟨hh, hdp, hun⟩ := hA
  refine' enterC (binds := [(Str.ofString "listing", .str x t1), (Str.ofString "low", .int low t2), (Str.ofString "high", .int high t3)]) ?k3 ?k5 ?k8 ?k6 ?k7 ?k9 ?kB ?kD ?_ ?c2 ?c3 ?c4
  case k3 => exact X
  case k5 => exact T
  case k6 => k_is
  case k7 => k_is
  case k8 => (simp only [recursionLimit]; omega)
  case k9 => exact BindsTo.of_eq rfl
  case kB => exact rfl
  case kD => decide +kernel
  case c2 => exact rfl
  case c3 => exact rfl
  case c4 => exact rfl
  intro L h₁ tk₁ cells F N Y
  obtain ⟨oc1, oc2, oc3, hE, dc1, dc2, dc3⟩ := CellsAre.three Y
  subst hE
  clear Y
  have dc1 : oc1.data = .cell (some (.int high t3)) := dc1
  have dc2 : oc2.data = .cell (some (.int low t2)) := dc2
  have dc3 : oc3.data = .cell (some (.str x t1)) := dc3
  have F : Fr s.heap L h₁ (fun _ => none) := F
  try dsimp only
  try k_fold

  k_steps
  rename IsRange _ _ _ _ _ _ _ _ => hr
  rename Fr _ _ _ _ => F1
  rename News _ _ _ _ => N1
  refine comp_range (n := 10) (fun i ys => StrsAre ys ((List.range i).map fun k => tx [if (Int.fdiv (low + 64 * high) (2 ^ k)).fmod 2 = 1 then x.cps.getD k 0 else 63])) hh hr (by decide) rfl rfl .nil ?_ ?_
  · intro i ys t C h₃ tk₃ m₃ hi hG hC hns hm hk
    have F3 := frC F1 hns hC hk
    have N3 := nwC N1 hC hk
    unfold VTurn
    refine wpAny_tests_nil ?_
    simp only [if_true]
    k_fold
    k_steps
    · rename (Int.fmod _ _ = _) => e9
      simp only [Int.toNat_natCast] at e9
      rw [List.range_succ, List.map_append, item_at (n := i) (by omega) (by omega) (by omega)]
      refine StrsAre.append' hG ?_
      simp only [List.map_cons, List.map_nil, if_pos e9]
      exact .cons _ _ .nil
    · exact keeps_of fun _ _ e => e
    · rename (Int.fmod _ _ ≠ _) => e9
      simp only [Int.toNat_natCast] at e9
      rw [List.range_succ, List.map_append, show Str.ofString "?" = tx [63] by decide +kernel]
      refine StrsAre.append' hG ?_
      simp only [List.map_cons, List.map_nil, if_neg e9]
      exact .cons _ _ .nil
    · exact keeps_of fun _ _ e => e
  · intro D h' tk' ys hG hD hl hk
    have F6 := F1.keeps hk
    have N6 := N1.grown hk
    try dsimp only
    try k_fold
    k_steps
    refine ret D ys h' tk' (kp_trans F1.keep hk) (Nat.le_trans ?_ hD) hl (by rw [sgn, List.map_map]; exact hG)
    exact Nat.le_trans F1.above (Nat.le_of_lt F1.ns.lt)
end Mine

-- C6
namespace Mine
theorem topOff_C6 : True := by
  w_top off
  trivial
end Mine
namespace Mine
open PySem PySem.W PyProof.Rows PySem.Calls PySem.Spec
local macro_rules | `(tactic| walk_at "none such") => `(tactic| skip)
local macro_rules | `(tactic| walk_at "none such") => `(tactic| skip)
local macro_rules | `(tactic| walk_at "none such") => `(tactic| skip)
local macro_rules | `(tactic| walk_at "none such") => `(tactic| skip)
local macro_rules | `(tactic| walk_at "none such") => `(tactic| skip)
local macro_rules | `(tactic| walk_at "none such") => `(tactic| skip)
local macro_rules | `(tactic| walk_at "none such") => `(tactic| skip)
local macro_rules | `(tactic| walk_at "none such") => `(tactic| skip)
local macro_rules | `(tactic| walk_at "none such") => `(tactic| skip)
local macro_rules | `(tactic| walk_at "none such") => `(tactic| skip)
local macro_rules | `(tactic| walk_at "none such") => `(tactic| skip)
local macro_rules | `(tactic| walk_at "eval ListComp") => `(tactic| ((with_reducible refine' comp_eval ?hclos ?hcell ?hkind ?hnames ?hs ?_); (case hclos => with_unfolding_all rfl); (case hcell => decide); (case hkind => with_unfolding_all rfl); (case hnames => decide); (case hs => intro _; with_unfolding_all rfl)))
local macro_rules | `(tactic| walk_at "newList") => `(tactic| (refine newList_X (by assumption) (by assumption) ?_; intro _ _ _ _))
local macro_rules | `(tactic| walk_at "call ref") => `(tactic| (refine wpAny_call ?_))

/-- does the row bear the signs that are kept -/
def tak (a r : List Nat) : Bool := ((List.range 10).filter fun k => a.getD k 0 != 63 && a.getD k 0 != r.getD k 0) == []
theorem c_takes {w : World} {p : Program} {loose : List Str} {mean : ExcName → Option Value} {mg mb : Str → Option Value} {A : Around} {s : Shared} {R : Result → Shared → Prop} {l : Addr} {vs : List Value} {a r : List Nat} {t2 : Tok} (hl : s.heap.IsList l vs.toArray) (hS : StrsAre vs (a.map fun c => tx [c])) (ha : a.length = 10) (hr0 : r.length = 10)
    (X : (KK w.params).In s.heap) (T : Top p loose mean mg mb s.heap) (hA : Rm A 2)
    (ret : ∀ h' tk', Kp s.heap h' → R (.ok (.ret (.bool (tak a r)))) { s with heap := h', toks := tk' }) :
    codeAny (model PG w) A (.call (.ref 186) ⟨[.ref l, .str (tx r) t2], []⟩) R s := by
  refine fill ?_
  k_fill
  intro _
  have hA0 := hA
  obtain ⟨hh, hdp, hun⟩ := hA
  refine' enterC (binds := [(Str.ofString "signs", .ref l), (Str.ofString "row", .str (tx r) t2)]) ?k3 ?k5 ?k8 ?k6 ?k7 ?k9 ?kB ?kD ?_ ?c2 ?c3 ?c4
  case k3 => exact X
  case k5 => exact T
  case k6 => k_is
  case k7 => k_is
  case k8 => (simp only [recursionLimit]; omega)
  case k9 => exact BindsTo.of_eq rfl
  case kB => exact rfl
  case kD => decide +kernel
  case c2 => exact rfl
  case c3 => exact rfl
  case c4 => exact rfl
  intro L h₁ tk₁ cells F N Y
  obtain ⟨oc1, oc2, hE, dc1, dc2⟩ := CellsAre.two Y
  subst hE
  clear Y
  have dc1 : oc1.data = .cell (some (.str (tx r) t2)) := dc1
  have dc2 : oc2.data = .cell (some (.ref l)) := dc2
  have F : Fr s.heap L h₁ (fun _ => none) := F
  try dsimp only
  try k_fold

  k_steps
  rename IsRange _ _ _ _ _ _ _ _ => hr
  rename Fr _ _ _ _ => F1
  rename News _ _ _ _ => N1
  have hrl : (tx r).length = 10 := by rw [tx_len, hr0]
  have hvl : vs.length = 10 := by rw [StrsAre.length hS, List.length_map, ha]
  refine comp_range (n := 10) (fun i ys => IntsAre ys (((List.range i).filter fun k => a.getD k 0 != 63 && a.getD k 0 != r.getD k 0).map fun k => ((k : Nat) : Int))) hh hr (by decide) rfl rfl .nil ?_ ?_
  · intro i ys t C h₃ tk₃ m₃ hi hG hC hns hm hk
    have F3 := frC F1 hns hC hk
    have N3 := nwC N1 hC hk
    unfold VTurn
    refine wpAny_tests_one ?_
    k_fold
    k_steps
    all_goals first
      | exact keeps_of fun _ _ e => e
      | ((try simp only [Int.toNat_natCast, sg_getD (a := a) (i := i) (by omega), tx_item (r := r) (i := i) (by omega), q_tx, tx1_ne] at *)
         rw [List.range_succ, List.filter_append, List.map_append]
         simp only [List.filter_cons, List.filter_nil, *, Bool.and_true, Bool.and_false, Bool.true_and, Bool.false_and, if_true, Bool.false_eq_true, if_false, List.map_cons, List.map_nil, List.append_nil]
         all_goals (first | exact hG | exact ints_snoc hG))
  · intro D h' tk' ys hG hD hl hk
    have F6 := F1.keeps hk
    have N6 := N1.grown hk
    try dsimp only
    try k_fold
    k_steps
    rename Kp _ _ => K8
    rename News _ _ _ _ => N8
    refine ke_eq_ints (hl.at fun o e => K8 _ o e) (News.isList N8 (.head _)) hG .nil ?_ ?_
    · show A.units + 3 + 64 < cLine
      have := cLine_is
      omega
    · have e : tak a r = decide ((((List.range 10).filter fun k => a.getD k 0 != 63 && a.getD k 0 != r.getD k 0).map fun k => ((k : Nat) : Int)) = []) := by
        unfold tak
        generalize ((List.range 10).filter fun k => a.getD k 0 != 63 && a.getD k 0 != r.getD k 0) = l
        cases l <;> simp
      show R (.ok (.ret (.bool _))) _
      exact finB (s := s) ret (kp_trans (kp_trans F1.keep hk) K8) e.symm
end Mine

-- C7
namespace Mine
theorem topOff_C7 : True := by
  w_top off
  trivial
end Mine
namespace Mine
open PySem PySem.W PyProof.Rows PySem.Calls PySem.Spec
local macro_rules | `(tactic| walk_at "eval ListComp") => `(tactic| ((with_reducible refine' comp_eval ?hclos ?hcell ?hkind ?hnames ?hs ?_); (case hclos => with_unfolding_all rfl); (case hcell => decide); (case hkind => with_unfolding_all rfl); (case hnames => decide); (case hs => intro _; with_unfolding_all rfl)))
local macro_rules | `(tactic| walk_at "newList") => `(tactic| (refine newList_X (by assumption) (by assumption) ?_; intro _ _ _ _))
local macro_rules | `(tactic| walk_at "call ref") => `(tactic| (refine wpAny_call ?_))

/-- the signs without the question marks at the end -/
def bare (a : List Nat) : List Nat := a.take (a.length - (a.reverse.takeWhile (· == 63)).length)
/-- the text that _law_pattern writes -/
def pat (a : List Nat) : List Nat := if bare a = a then a else bare a ++ [42]
theorem bare_tx (a : List Nat) : Txt.rstripChars (tx a) (Str.ofString "?") = tx (bare a) := by
  have e : (Str.ofString "?").cps.contains = fun c => c == 63 := by
    funext c
    rw [q_tx]
    simp [tx]
    try (constructor <;> intro h <;> exact h.symm)
  unfold Txt.rstripChars
  rw [e, PyProof.Rows.stripBy_eq]
  show Str.mk ((tx a).cps.extract _ _) = _
  simp [tx, stripHi, Str.length, bare, stripLo]
theorem c_pattern {w : World} {p : Program} {loose : List Str} {mean : ExcName → Option Value} {mg mb : Str → Option Value} {A : Around} {s : Shared} {R : Result → Shared → Prop} {l : Addr} {vs : List Value} {a : List Nat} (hl : s.heap.IsList l vs.toArray) (hS : StrsAre vs (a.map fun c => tx [c])) (ha : a.length = 10)
    (X : (KK w.params).In s.heap) (T : Top p loose mean mg mb s.heap) (hA : Rm A 2)
    (ret : ∀ t h' tk', Kp s.heap h' → R (.ok (.ret (.str (tx (pat a)) t))) { s with heap := h', toks := tk' }) :
    codeAny (model PG w) A (.call (.ref 169) ⟨[.ref l], []⟩) R s := by
  refine fill ?_
  k_fill
  intro _
  have hA0 := hA
  obtain ⟨hh, hdp, hun⟩ := hA
  refine' enter (binds := [(Str.ofString "signs", .ref l)]) ?k3 ?k5 ?k8 ?k6 ?k7 ?k9 ?kB ?_ ?c2 ?c3 ?c4 ?c5
  case k3 => exact X
  case k5 => exact T
  case k6 => k_is
  case k7 => k_is
  case k8 => (simp only [recursionLimit]; omega)
  case k9 => exact BindsTo.of_eq rfl
  case kB => exact locs rfl
  case c2 => exact rfl
  case c3 => exact rfl
  case c4 => exact rfl
  case c5 => decide
  intro L h₁ F N
  try dsimp only
  try k_fold

  k_steps
  have hl1 := hl.at fun o e => F.keep l o e
  refine join_signs (l := a) hl1 hS (by omega) fun t1 k1 => ?_
  have htl : (tx a).length = 10 := by rw [tx_len, ha]
  try dsimp only
  try k_fold
  k_steps
  · rename (@BEq.beq Str _ _ _ = true) => e9
    rename Fr _ _ _ _ => F9
    have e : bare a = a := tx_inj (by rw [← bare_tx]; exact beq_iff_eq.mp e9)
    exact finS (s := s) ret F9.keep (by rw [bare_tx, pat, if_pos e, e])
  · rename (@BEq.beq Str _ _ _ = false) => e9
    rename Fr _ _ _ _ => F9
    have e : ¬ bare a = a := fun e => by rw [bare_tx, e] at e9; simp at e9
    exact finS (s := s) ret F9.keep (by rw [bare_tx, pat, if_neg e, show Str.ofString "*" = tx [42] by decide +kernel, tx_app])
end Mine

-- C8
namespace Mine
theorem topOff_C8 : True := by
  w_top off
  trivial
end Mine
namespace Mine
open PySem PySem.W PyProof.Rows PySem.Calls PySem.Spec
local macro_rules | `(tactic| walk_at "none such") => `(tactic| skip)
local macro_rules | `(tactic| walk_at "none such") => `(tactic| skip)
local macro_rules | `(tactic| walk_at "none such") => `(tactic| skip)
local macro_rules | `(tactic| walk_at "none such") => `(tactic| skip)
local macro_rules | `(tactic| walk_at "none such") => `(tactic| skip)
local macro_rules | `(tactic| walk_at "none such") => `(tactic| skip)
local macro_rules | `(tactic| walk_at "none such") => `(tactic| skip)
local macro_rules | `(tactic| walk_at "none such") => `(tactic| skip)
local macro_rules | `(tactic| walk_at "none such") => `(tactic| skip)
local macro_rules | `(tactic| walk_at "none such") => `(tactic| skip)
local macro_rules | `(tactic| walk_at "none such") => `(tactic| skip)
local macro_rules | `(tactic| walk_at "eval ListComp") => `(tactic| ((with_reducible refine' comp_eval ?hclos ?hcell ?hkind ?hnames ?hs ?_); (case hclos => with_unfolding_all rfl); (case hcell => decide); (case hkind => with_unfolding_all rfl); (case hnames => decide); (case hs => intro _; with_unfolding_all rfl)))
local macro_rules | `(tactic| walk_at "newList") => `(tactic| (refine newList_X (by assumption) (by assumption) ?_; intro _ _ _ _))
local macro_rules | `(tactic| walk_at "call ref") => `(tactic| (refine wpAny_call ?_))

/-- the signs laid over each other -/
def ovr (a b g : List Nat) : List Nat := (List.range 10).map fun k => if a.getD k 0 ≠ 63 then a.getD k 0 else if b.getD k 0 ≠ 63 then b.getD k 0 else g.getD k 0
theorem c_over {w : World} {p : Program} {loose : List Str} {mean : ExcName → Option Value} {mg mb : Str → Option Value} {A : Around} {s : Shared} {R : Result → Shared → Prop} {l1 l2 : Addr} {vs1 vs2 : List Value} {a b g : List Nat} {t3 : Tok} (hl1 : s.heap.IsList l1 vs1.toArray) (hS1 : StrsAre vs1 (a.map fun c => tx [c])) (ha : a.length = 10)
    (hl2 : s.heap.IsList l2 vs2.toArray) (hS2 : StrsAre vs2 (b.map fun c => tx [c])) (hb : b.length = 10) (hg : g.length = 10) (hga : g.all (· < 128) = true)
    (X : (KK w.params).In s.heap) (T : Top p loose mean mg mb s.heap) (hA : Rm A 2)
    (ret : ∀ t h' tk', Kp s.heap h' → R (.ok (.ret (.str (tx (ovr a b g)) t))) { s with heap := h', toks := tk' }) :
    codeAny (model PG w) A (.call (.ref 181) ⟨[.ref l1, .ref l2, .str (tx g) t3], []⟩) R s := by
  refine fill ?_
  k_fill
  intro _
  have hA0 := hA
  obtain ⟨hh, hdp, hun⟩ := hA
  refine' enter (binds := [(Str.ofString "upper", .ref l1), (Str.ofString "lower", .ref l2), (Str.ofString "ground", .str (tx g) t3)]) ?k3 ?k5 ?k8 ?k6 ?k7 ?k9 ?kB ?_ ?c2 ?c3 ?c4 ?c5
  case k3 => exact X
  case k5 => exact T
  case k6 => k_is
  case k7 => k_is
  case k8 => (simp only [recursionLimit]; omega)
  case k9 => exact BindsTo.of_eq rfl
  case kB => exact locs rfl
  case c2 => exact rfl
  case c3 => exact rfl
  case c4 => exact rfl
  case c5 => decide
  intro L h₁ F N
  try dsimp only
  try k_fold

  k_steps
  rename Fr _ _ _ _ => F1
  rename News _ _ _ _ => N1
  refine call_zip_3 (by simpa [tx] using hga) (hl1.at fun o e => F1.keep _ o e) (hl2.at fun o e => F1.keep _ o e) fun h2 Z hsz k2 => ?_
  have lt1 : l1 < s.heap.objs.size := by obtain ⟨o, ho, _⟩ := hl1; exact Heap.lt_size ho
  have lt2 : l2 < s.heap.objs.size := by obtain ⟨o, ho, _⟩ := hl2; exact Heap.lt_size ho
  have hle : s.heap.objs.size ≤ h₁.objs.size := Nat.le_trans F1.above (Nat.le_of_lt F1.ns.lt)
  refine comp_zip3 (n := 10) (fun i ys => StrsAre ys ((List.range i).map fun k => tx [if a.getD k 0 ≠ 63 then a.getD k 0 else if b.getD k 0 ≠ 63 then b.getD k 0 else g.getD k 0])) hh Z (Nat.lt_of_lt_of_le lt1 hle) (Nat.lt_of_lt_of_le lt2 hle)
    (by have := StrsAre.length hS1; simpa [ha] using this) (by have := StrsAre.length hS2; simpa [hb] using this) (by simpa [tx] using hg) (by decide) rfl rfl rfl rfl .nil ?_ ?_
  · intro i vs v1 v2 c t C h₃ tk₃ m₃ hi hG hC e1 e2 e3 hns hk
    obtain ⟨u1, q1⟩ := StrsAre.get hS1 i (tx [a.getD i 0]) (by rw [List.getElem?_map, List.getElem?_eq_getElem (by omega)]; simp [List.getD, List.getElem?_eq_getElem (show i < a.length by omega)])
    obtain ⟨u2, q2⟩ := StrsAre.get hS2 i (tx [b.getD i 0]) (by rw [List.getElem?_map, List.getElem?_eq_getElem (by omega)]; simp [List.getD, List.getElem?_eq_getElem (show i < b.length by omega)])
    obtain rfl : v1 = .str (tx [a.getD i 0]) u1 := by
      have e1' : vs1[i]? = some v1 := by simpa using e1
      rw [q1] at e1'; exact (Option.some.inj e1').symm
    obtain rfl : v2 = .str (tx [b.getD i 0]) u2 := by
      have e2' : vs2[i]? = some v2 := by simpa using e2
      rw [q2] at e2'; exact (Option.some.inj e2').symm
    obtain rfl : c = g.getD i 0 := by
      have e3' : g[i]? = some c := by simpa [tx] using e3
      simp [List.getD, e3']
    have F3 := frC F1 hns (Nat.le_trans (by rw [hsz]; exact Nat.le_add_right _ _) hC) (fun b o e => hk b o (Heap.lt_size e) (k2 b o e))
    have N3 : News s.heap C h₃ [] := News.nil
    unfold VTurn
    refine wpAny_tests_nil ?_
    simp only [if_true]
    k_fold
    k_steps
    all_goals (try k_data)
    all_goals first
      | exact keeps_of fun _ _ e => e
      | (simp only [q_tx, tx1_ne, bne_iff_ne, bne_eq_false_iff_eq] at *
         rw [List.range_succ, List.map_append]
         refine StrsAre.append' hG ?_
         simp only [List.map_cons, List.map_nil, ne_eq, *, not_true_eq_false, not_false_eq_true, if_true, if_false]
         exact .cons _ _ .nil)
  · intro D h' tk' ys hG hD hl hk
    have F6 := F1.keeps fun b o e => hk b o (Heap.lt_size e) (k2 b o e)
    have N6 : News s.heap L h' [] := News.nil
    try dsimp only
    try k_fold
    k_steps
    refine join_signs (l := ovr a b g) hl (by rw [ovr, List.map_map]; exact hG) (by simp [ovr]) fun t k => ?_
    exact ret _ _ _ F6.keep
end Mine

-- C9
namespace Mine
theorem topOff_C9 : True := by
  w_top off
  trivial
end Mine
namespace Mine
open PySem PySem.W PyProof.Rows PySem.Calls PySem.Spec
local macro_rules | `(tactic| walk_at "eval ListComp") => `(tactic| ((with_reducible refine' comp_eval ?hclos ?hcell ?hkind ?hnames ?hs ?_); (case hclos => with_unfolding_all rfl); (case hcell => decide); (case hkind => with_unfolding_all rfl); (case hnames => decide); (case hs => intro _; with_unfolding_all rfl)))
local macro_rules | `(tactic| walk_at "newList") => `(tactic| (refine newList_X (by assumption) (by assumption) ?_; intro _ _ _ _))
local macro_rules | `(tactic| walk_at "call ref") => `(tactic| (refine wpAny_call ?_))

/-- what escape makes of a sign -/
def esc (c : Nat) : List Nat := if c = 45 then [92, 45] else [c]
/-- the signs that stand in listings -/
def Lst (c : Nat) : Prop := c = 45 ∨ c = 112 ∨ c = 99 ∨ c = 100 ∨ c = 98 ∨ c = 108 ∨ c = 115 ∨ c = 114 ∨ c = 119 ∨ c = 120 ∨ c = 83 ∨ c = 116 ∨ c = 84
theorem map72 (w : World) : ∃ (es : Array DictEntry) (n : Nat), (KK w.params).lookup 72 = some ⟨.type "dict", none, .dict es n, #[]⟩ ∧ KeysOf (intKind PG w) es ∧
    (∀ c : Nat, Lst c → c ≠ 45 → findBy Value.isInt es (c : Int) = none) ∧ ∃ u, findBy Value.isInt es (45 : Int) = some (.str (tx [92, 45]) u) := by
  refine fill ?_
  k_fill
  intro _
  refine ⟨_, _, by k_is, ?_, ?_, ?_⟩
  · intro e he
    simp only [List.mem_toArray, List.mem_cons, List.not_mem_nil, or_false, Array.mem_toArray] at he
    repeat' (rcases he with rfl | he)
    all_goals first | exact ⟨_, by simp only [intKind, Value.isInt]; exact beq_self_eq_true _, by rfl⟩ | skip
    all_goals (subst he; exact ⟨_, by simp only [intKind, Value.isInt]; exact beq_self_eq_true _, by rfl⟩)
  · intro c hc hn
    rcases hc with rfl | rfl | rfl | rfl | rfl | rfl | rfl | rfl | rfl | rfl | rfl | rfl | rfl
    · exact absurd rfl hn
    all_goals rfl
  · exact ⟨_, by rfl⟩
theorem c_escape {w : World} {p : Program} {loose : List Str} {mean : ExcName → Option Value} {mg mb : Str → Option Value} {A : Around} {s : Shared} {R : Result → Shared → Prop} {c : Nat} {t : Tok} (hc : Lst c)
    (X : (KK w.params).In s.heap) (T : Top p loose mean mg mb s.heap) (hA : Rm A 1)
    (ret : ∀ t h' tk', Kp s.heap h' → R (.ok (.ret (.str (tx (esc c)) t))) { s with heap := h', toks := tk' }) :
    codeAny (model PG w) A (.call (.ref 82) ⟨[.str (tx [c]) t], []⟩) R s := by
  refine fill ?_
  k_fill
  intro _
  have hA0 := hA
  obtain ⟨hh, hdp, hun⟩ := hA
  refine' enter (binds := [(Str.ofString "pattern", .str (tx [c]) t)]) ?k3 ?k5 ?k8 ?k6 ?k7 ?k9 ?kB ?_ ?c2 ?c3 ?c4 ?c5
  case k3 => exact X
  case k5 => exact T
  case k6 => k_is
  case k7 => k_is
  case k8 => (simp only [recursionLimit]; omega)
  case k9 => exact BindsTo.of_eq rfl
  case kB => exact locs rfl
  case c2 => exact rfl
  case c3 => exact rfl
  case c4 => exact rfl
  case c5 => decide
  intro L h₁ F N
  try dsimp only
  try k_fold

  k_steps
  refine getm_translate ?_
  try dsimp only
  try k_fold
  k_steps
  obtain ⟨es, n, h72, hk72, hno, u, hyes⟩ := map72 w
  have hc128 : c < 128 := by unfold Lst at hc; omega
  have hm : Heap.MapOf (intKind PG w) h₁ 72 (fun k => findBy Value.isInt es k) :=
    ⟨_, es, n, F.keep _ _ (X _ _ h72), ⟨rfl, rfl, rfl⟩, rfl, hk72, fun _ => rfl⟩
  by_cases h45 : c = 45
  · subst h45
    refine translate_two hc128 hm hyes fun t' tk => ?_
    exact finS (s := s) ret F.keep rfl
  · refine translate_miss hc128 hm (hno c hc h45) (by decide) hh fun h' t' tk k => ?_
    exact finS (s := s) ret (kp_trans F.keep k) (by rw [esc, if_neg h45])
end Mine

-- C10
namespace Mine
theorem topOff_C10 : True := by
  w_top off
  trivial
end Mine
namespace Mine
open PySem PySem.W PyProof.Rows PySem.Calls PySem.Spec
set_option maxHeartbeats 800000
local macro_rules | `(tactic| walk_at "none such") => `(tactic| skip)
local macro_rules | `(tactic| walk_at "none such") => `(tactic| skip)
local macro_rules | `(tactic| walk_at "none such") => `(tactic| skip)
local macro_rules | `(tactic| walk_at "none such") => `(tactic| skip)
local macro_rules | `(tactic| walk_at "none such") => `(tactic| skip)
local macro_rules | `(tactic| walk_at "none such") => `(tactic| skip)
local macro_rules | `(tactic| walk_at "none such") => `(tactic| skip)
local macro_rules | `(tactic| walk_at "none such") => `(tactic| skip)
local macro_rules | `(tactic| walk_at "none such") => `(tactic| skip)
local macro_rules | `(tactic| walk_at "none such") => `(tactic| skip)
local macro_rules | `(tactic| walk_at "none such") => `(tactic| skip)
local macro_rules | `(tactic| walk_at "eval ListComp") => `(tactic| ((with_reducible refine' comp_eval ?hclos ?hcell ?hkind ?hnames ?hs ?_); (case hclos => with_unfolding_all rfl); (case hcell => decide); (case hkind => with_unfolding_all rfl); (case hnames => decide); (case hs => intro _; with_unfolding_all rfl)))
local macro_rules | `(tactic| walk_at "newList") => `(tactic| (refine newList_X (by assumption) (by assumption) ?_; intro _ _ _ _))
local macro_rules | `(tactic| walk_at "call ref") => `(tactic| (refine wpAny_call ?_))
local macro_rules | `(tactic| walk_at "callWith ref") => `(tactic| ((with_reducible show wpAny _ _ (callWith _ (Value.ref _) _ (backTo _ (starEach (_ :: _) _)) []) _ _ _); (refine callWith_bnd (by assumption) (by first | exact .head _ | exact .tail _ (.head _) | exact .tail _ (.tail _ (.head _))) ?_ (by rfl) (by rfl))))
local macro_rules | `(tactic| walk_at "And") => `(tactic| ((with_reducible show BndAt _ _ _ ∧ _); (rename News _ _ _ _ => bndN); refine ⟨BndAt.of bndN (by first | exact .head _ | exact .tail _ (.head _) | exact .tail _ (.tail _ (.head _))), ?_⟩))
local macro_rules | `(tactic| walk_at "BndAt") => `(tactic| ((rename News _ _ _ _ => bndN); exact BndAt.of bndN (by first | exact .head _ | exact .tail _ (.head _) | exact .tail _ (.tail _ (.head _)))))
local macro_rules | `(tactic| walk_at "exec While Compare cons nil") => `(tactic| (refine Hold.stop ?_))
local macro_rules | `(tactic| walk_at "exec While BoolOp cons nil") => `(tactic| (refine Hold.stop ?_))
local macro_rules | `(tactic| walk_at "exec If") => `(tactic| (refine If_hold ?_))
local macro_rules | `(tactic| walk_at "truthy ref") => `(tactic| (refine Hold.stop ?_))
local macro_rules | `(tactic| walk_at "subscriptTail Name UnaryOp ref int") => `(tactic| (refine Hold.stop ?_))

/-- what a sign of a pattern becomes -/
def prt (c : Nat) : List Nat := if c = 63 then [46] else esc c
inductive PartsAre (star : Addr) : List Value → List Nat → Prop
  | nil : PartsAre star [] []
  | star {vs cs} : PartsAre star vs cs → PartsAre star (.ref star :: vs) (42 :: cs)
  | str {vs cs c} (t : Tok) : c ≠ 42 → PartsAre star vs cs → PartsAre star (.str (tx (prt c)) t :: vs) (c :: cs)
/-- the texts that _law_pattern writes: signs, and a star at the end at the most -/
def PatOk (q : List Nat) : Prop := ∃ b, (∀ c ∈ b, Lst c ∨ c = 63) ∧ (q = b ∨ q = b ++ [42]) ∧ b.length ≤ 10
theorem PartsAre.len {star : Addr} {vs : List Value} {cs : List Nat} (h : PartsAre star vs cs) : vs.length = cs.length := by
  induction h with
  | nil => rfl
  | star _ ih => simp [ih]
  | str _ _ _ ih => simp [ih]
theorem PartsAre.snoc {star : Addr} {vs ws : List Value} {cs ds : List Nat} (h : PartsAre star vs cs) (h2 : PartsAre star ws ds) : PartsAre star (vs ++ ws) (cs ++ ds) := by
  induction h with
  | nil => exact h2
  | star _ ih => exact .star ih
  | str t hc _ ih => exact .str t hc ih
theorem PartsAre.strs {star : Addr} {vs : List Value} {cs : List Nat} (h : PartsAre star vs cs) (h42 : 42 ∉ cs) : ∀ v ∈ vs, ∃ x t, v = .str x t := by
  induction h with
  | nil => intro v hv; cases hv
  | star _ ih => exact absurd (List.mem_cons_self ..) h42
  | str t hc _ ih =>
    intro v hv
    rcases List.mem_cons.mp hv with rfl | hv
    · exact ⟨_, _, rfl⟩
    · exact ih (fun h => h42 (List.mem_cons_of_mem _ h)) v hv
theorem Rm.le {A : Around} {n m : Nat} (h : Rm A n) (hm : m ≤ n) : Rm A m := ⟨h.1, Nat.le_trans h.2 (by omega), Nat.le_trans h.3 (by omega)⟩
theorem tx1_eq (c d : Nat) : (tx [c] == tx [d]) = (c == d) := by
  have := tx1_ne c d
  simpa [bne] using this
theorem tx_star : Str.ofString "*" = tx [42] := by decide +kernel
theorem tx_quest : Str.ofString "?" = tx [63] := by decide +kernel
theorem tx_brack : Str.ofString "[" = tx [91] := by decide +kernel
structure CAt (done : List Nat) (c : Nat) (rest : List Nat) : Prop where
  star : c = 42 → rest = []
  lst : c ≠ 42 → c ≠ 63 → Lst c
  done : 42 ∉ done
theorem CAt.brack {done rest : List Nat} {c : Nat} (h : CAt done c rest) (h42 : c ≠ 42) (h63 : c ≠ 63) : c ≠ 91 := fun e => by
  have := h.lst h42 h63
  subst e
  revert this
  unfold Lst
  decide
theorem Lst.ne42 {c : Nat} (h : Lst c) : c ≠ 42 := fun e => by
  subst e
  revert h
  unfold Lst
  decide
theorem PatOk.at {q done rest : List Nat} {c : Nat} (h : PatOk q) (e : q = done ++ c :: rest) : CAt done c rest := by
  obtain ⟨b, hb, hq, _⟩ := h
  have hb42 : 42 ∉ b := fun hm => by
    rcases hb _ hm with h | h
    · exact h.ne42 rfl
    · exact absurd h (by decide)
  rcases hq with rfl | rfl
  · have hc : c ∈ q := by rw [e]; simp
    have hc42 : c ≠ 42 := fun h => hb42 (h ▸ hc)
    refine ⟨fun h => absurd h hc42, fun _ h63 => (hb c hc).resolve_right h63, fun hm => hb42 ?_⟩
    rw [e]; exact List.mem_append_left _ hm
  · rcases List.eq_nil_or_concat rest with rfl | ⟨r, x, rfl⟩
    · have e' : b ++ [42] = done ++ [c] := e
      obtain ⟨rfl, h2⟩ := List.append_inj' e' rfl
      cases h2
      exact ⟨fun _ => rfl, fun h => absurd rfl h, hb42⟩
    · rw [List.concat_eq_append, ← List.cons_append, ← List.append_assoc] at e
      obtain ⟨rfl, h2⟩ := List.append_inj' e rfl
      have hc : c ∈ done ++ c :: r := by simp
      have hc42 : c ≠ 42 := fun h => hb42 (h ▸ hc)
      exact ⟨fun h => absurd h hc42, fun _ h63 => (hb c hc).resolve_right h63, fun hm => hb42 (List.mem_append_left _ hm)⟩
/-- what the loop of _translate keeps -/
def trJ (h₀ : Heap) (q : List Nat) (star D mm : Addr) (t tq : Tok) (n : Nat) (m : Str → Option Value) (news : List (Addr × Obj)) : Prop :=
  ∃ done rest items k tk1 tk2, q = done ++ rest ∧ n = rest.length ∧ news = [(mm, bndObj D), (D, listOf (List.toArray items) k)] ∧ PartsAre star items done ∧
    m (Str.ofString "pat") = some (.str (tx q) t) ∧ m (Str.ofString "STAR") = some (.ref star) ∧ m (Str.ofString "QUESTION_MARK") = some (.str (Str.ofString ".") tq) ∧
    m (Str.ofString "res") = some (.ref D) ∧ m (Str.ofString "add") = some (.ref mm) ∧ m (Str.ofString "i") = some (.int (done.length : Int) tk1) ∧ m (Str.ofString "n") = some (.int ((tx q).length : Int) tk2)
theorem trJ_map {q : List Nat} {star D mm : Addr} {t tq tk1 tk2 : Tok} {m : Str → Option Value} {j : Int}
    (e1 : m (Str.ofString "pat") = some (.str (tx q) t)) (e2 : m (Str.ofString "STAR") = some (.ref star)) (e3 : m (Str.ofString "QUESTION_MARK") = some (.str (Str.ofString ".") tq))
    (e4 : m (Str.ofString "res") = some (.ref D)) (e5 : m (Str.ofString "add") = some (.ref mm)) (e6 : m (Str.ofString "i") = some (.int j tk1)) (e7 : m (Str.ofString "n") = some (.int ((tx q).length : Int) tk2)) :
    m = fun y => if y = Str.ofString "i" then some (.int j tk1) else if y = Str.ofString "n" then some (.int ((tx q).length : Int) tk2) else if y = Str.ofString "add" then some (.ref mm)
      else if y = Str.ofString "res" then some (.ref D) else if y = Str.ofString "pat" then some (.str (tx q) t) else if y = Str.ofString "STAR" then some (.ref star)
      else if y = Str.ofString "QUESTION_MARK" then some (.str (Str.ofString ".") tq) else m y := by
  funext y
  repeat (split; · next h => subst h; assumption)
  rfl
theorem c_tr {w : World} {p : Program} {loose : List Str} {mean : ExcName → Option Value} {mg mb : Str → Option Value} {A : Around} {s : Shared} {R : Result → Shared → Prop} {q : List Nat} {star : Addr} {so : Obj} {t tq : Tok} (hq : PatOk q) (hstar : s.heap.get? star = some so)
    (X : (KK w.params).In s.heap) (T : Top p loose mean mg mb s.heap) (hA : Rm A 3)
    (ret : ∀ D vs h' tk', Kp s.heap h' → s.heap.objs.size ≤ D → h'.IsList D (List.toArray vs) → PartsAre star vs q → R (.ok (.ret (.ref D))) { s with heap := h', toks := tk' }) :
    codeAny (model PG w) A (.call (.ref 89) ⟨[.str (tx q) t, .ref star, .str (Str.ofString ".") tq], []⟩) R s := by
  have hql : (tx q).length ≤ 11 := by
    rw [tx_len]; obtain ⟨b, _, rfl | rfl, h⟩ := hq
    · omega
    · rw [List.length_append, List.length_singleton]; omega
  refine fill ?_
  k_fill
  intro _
  have hA0 := hA
  obtain ⟨hh, hdp, hun⟩ := hA
  refine' enter (binds := [(Str.ofString "pat", .str (tx q) t), (Str.ofString "STAR", .ref star), (Str.ofString "QUESTION_MARK", .str (Str.ofString ".") tq)]) ?k3 ?k5 ?k8 ?k6 ?k7 ?k9 ?kB ?_ ?c2 ?c3 ?c4 ?c5
  case k3 => exact X
  case k5 => exact T
  case k6 => k_is
  case k7 => k_is
  case k8 => (simp only [recursionLimit]; omega)
  case k9 => exact BindsTo.of_eq rfl
  case kB => exact locs rfl
  case c2 => exact rfl
  case c3 => exact rfl
  case c4 => exact rfl
  case c5 => decide
  intro L h₁ F N
  try dsimp only
  try k_fold

  have hD0 : s.heap.objs.size ≤ h₁.objs.size := Nat.le_trans F.above (Nat.le_of_lt F.ns.lt)
  k_steps
  rename Fr _ _ _ _ => F1
  rename News _ _ _ _ => N1
  try dsimp only at F1 N1 ⊢
  generalize hDz : h₁.objs.size = D at F1 N1 hD0 ⊢
  refine getAttr_append (items := #[]) ⟨_, (N1 _ (.head _)).1⟩ fun h2 m tk2 hm hsz2 k2 => ?_
  have F2 := F1.keeps k2
  have hmD : m ≠ D := fun e => Nat.lt_irrefl D (Nat.lt_of_lt_of_le (Heap.lt_size (N1 _ (.head _)).1) (e ▸ hsz2))
  have N2 : News s.heap L h2 ((m, bndObj D) :: [(D, listOf #[] 0)]) := by
    intro p hp
    rcases hp with _ | ⟨_, hp⟩
    · refine ⟨hm, fun e => ?_, ?_⟩
      · exact Nat.lt_irrefl L (Nat.lt_of_lt_of_le F1.ns.lt (e ▸ hsz2))
      · exact Heap.get?_none_of_le (Nat.le_trans (Nat.le_trans F1.above (Nat.le_of_lt F1.ns.lt)) hsz2)
    · exact (N1.grown k2) _ ‹_›
  clear F1 N1 hm hsz2 k2
  try dsimp only
  try k_fold
  k_steps
  rename Fr _ _ _ _ => F3
  rename News _ _ _ _ => N3
  refine unpackItemsN_ F3 N3 (News.isTup N3 (.head _)) hh rfl fun h3 F3 N3 => ?_
  try dsimp only
  try k_fold
  k_steps
  refine Hold.go ?_
  rename Fr _ _ _ _ => F4
  rename News _ _ _ _ => N4
  refine While_inv2 (J := trJ s.heap q star D m t tq) (n₀ := q.length) F4 (fun p hp => N4 p (.tail _ hp)) ⟨[], q, [], 0, _, _, rfl, rfl, rfl, .nil, rfl, rfl, rfl, rfl, rfl, rfl, rfl⟩ ?_
  clear F4 N4
  intro n m₁ news₁ h₅ tk₅ F5 N5 J5
  obtain ⟨done, rest, items, k, tk1, tk2', hq1, hn, rfl, hP, e1, e2, e3, e4, e5, e6, e7⟩ := J5
  rw [trJ_map e1 e2 e3 e4 e5 e6 e7] at F5
  rcases rest with _ | ⟨c, rest⟩
  · have hl : ((tx q).length : Int) = (done.length : Int) := by rw [hq1, List.append_nil, tx_len]
    rw [hl] at F5
    try dsimp only
    try k_fold
    k_steps
    exact ret D items h₅ tk₅ F5.keep hD0 (News.isList N5 (.tail _ (.head _))) (by rw [hq1, List.append_nil]; exact hP)
  · have hl : ((tx q).length : Int) = (done.length : Int) + (rest.length : Int) + 1 := by rw [hq1, tx_len, List.length_append, List.length_cons]; omega
    have hl0 : 0 ≤ (done.length : Int) := Int.natCast_nonneg _
    have hl1 : 0 ≤ (rest.length : Int) := Int.natCast_nonneg _
    rw [hl] at F5
    try dsimp only
    try k_fold
    have hitem : Txt.item (tx q) (done.length : Int) = tx [c] := by
      rw [tx_item (by rw [hq1]; simp), hq1, List.getD_eq_getElem?_getD, List.getElem?_append_right (Nat.le_refl _), Nat.sub_self]; rfl
    have hcok := hq.at hq1
    have hsz0 : items.length ≤ 11 := by
      have h1 := hP.len
      rw [tx_len, hq1, List.length_append] at hql
      omega
    have hsz : (List.toArray items).size ≤ sizeLine := by
      rw [List.size_toArray]; exact Nat.le_trans hsz0 (by decide)
    have hlen : ((done ++ [c]).length : Int) = (done.length : Int) + 1 := by simp
    k_steps
    rename Fr _ _ _ _ => F6
    rename News _ _ _ _ => N6
    try dsimp only
    simp only [hitem] at F6 ⊢
    by_cases h42 : c = 42
    · subst h42
      rw [if_pos (by decide +kernel)]
      refine Hold.go ?_
      obtain rfl := hcok.star rfl
      k_steps
      rename News _ _ _ _ => N7
      have hl7 := News.isList N7 (.tail _ (.head _))
      refine Hold.go ?_
      refine wpAny_truthy_list hl7 (by rw [List.size_toArray]; exact Int.lt_of_le_of_lt (Int.ofNat_le.mpr hsz0) (by decide)) ?_
      rcases List.eq_nil_or_concat items with hit | ⟨its, x, hit⟩
      · simp only [show (!(List.toArray items).isEmpty) = false by rw [hit]; rfl]
        try dsimp only
        try k_fold
        k_steps
        rw [if_pos trivial]
        refine Hold.go ?_
        k_steps
        rename Fr _ _ _ _ => F7
        rename News _ _ _ _ => N7
        refine append_News F7 N7 hmD (fun _ h => nomatch h) hsz fun h' F8 N8 => ?_
        clear F7 N7
        try dsimp only
        try k_fold
        k_steps
        rename Fr _ _ _ _ => F9
        rename News _ _ _ _ => N9
        exact ⟨h', _, _, _, List.length _, rfl, F9, N9, by rw [hn]; exact Nat.lt_succ_self _, done ++ [_], _, items ++ [.ref star], k + 1, _, _, by simp [hq1], rfl, by simp, hP.snoc (.star .nil), rfl, rfl, rfl, rfl, rfl, by rw [hlen]; rfl, by rw [hl]; rfl⟩
      · rw [List.concat_eq_append] at hit
        obtain ⟨xs, tt, hx⟩ := hP.strs hcok.done x (by rw [hit]; simp)
        simp only [show (!(List.toArray items).isEmpty) = true by rw [hit]; simp]
        try dsimp only
        try k_fold
        k_steps
        rename News _ _ _ _ => N8
        refine Hold.go ?_
        refine kim_back (l := items) N8 (.tail _ (.head _)) rfl rfl (by decide) (by rw [hit]; simp; omega) (by decide) (x := .str xs tt) (by rw [hit, hx, show (-1 + ((its ++ [Value.str xs tt]).length : Int)).toNat = its.length by simp; omega]; simp) ?_
        try dsimp only
        try k_fold
        k_steps
        refine wpAny_isNot_other (by rfl) (by intro h; cases h) ?_
        try dsimp only
        try k_fold
        k_steps
        rw [if_pos (by first | rfl | trivial)]
        refine Hold.go ?_
        k_steps
        rename Fr _ _ _ _ => F7
        rename News _ _ _ _ => N7
        refine append_News F7 N7 hmD (fun _ h => nomatch h) hsz fun h' F8 N8 => ?_
        clear F7 N7
        try dsimp only
        try k_fold
        k_steps
        rename Fr _ _ _ _ => F9
        rename News _ _ _ _ => N9
        exact ⟨h', _, _, _, List.length _, rfl, F9, N9, by rw [hn]; exact Nat.lt_succ_self _, done ++ [_], _, items ++ [.ref star], k + 1, _, _, by simp [hq1], rfl, by simp, hP.snoc (.star .nil), rfl, rfl, rfl, rfl, rfl, by rw [hlen]; rfl, by rw [hl]; rfl⟩
    · rw [if_neg (by rw [tx_star, tx1_eq]; simpa using h42)]
      refine Hold.go ?_
      k_steps
      by_cases h63 : c = 63
      · rw [if_pos (by rw [h63]; decide +kernel)]
        refine Hold.go ?_
        have hp63 : Str.ofString "." = tx (prt c) := by rw [h63]; decide +kernel
        k_steps
        rename Fr _ _ _ _ => F7
        rename News _ _ _ _ => N7
        refine append_News F7 N7 hmD (fun _ h => nomatch h) hsz fun h' F8 N8 => ?_
        clear F7 N7
        try dsimp only
        try k_fold
        k_steps
        rename Fr _ _ _ _ => F9
        rename News _ _ _ _ => N9
        exact ⟨h', _, _, _, List.length _, rfl, F9, N9, by rw [hn]; exact Nat.lt_succ_self _, done ++ [_], _, items ++ [.str (tx (prt c)) tq], k + 1, _, _, by simp [hq1], rfl, by rw [hp63]; simp, hP.snoc (.str _ h42 .nil), rfl, rfl, rfl, rfl, rfl, by rw [hlen]; rfl, by rw [hl]; rfl⟩
      · rw [if_neg (by rw [tx_quest, tx1_eq]; simpa using h63)]
        refine Hold.go ?_
        k_steps
        rw [if_neg (by rw [tx_brack, tx1_eq]; simpa using hcok.brack h42 h63)]
        refine Hold.go ?_
        have hpe : tx (esc c) = tx (prt c) := by unfold prt; rw [if_neg h63]
        k_steps
        refine c_escape (hcok.lst h42 h63) (X.keeps (Fr.keep ‹_›)) (T.keeps (Fr.keep ‹_›)) (Rm.le (n := 2) (Rm.deeper hA0) (by decide)) fun t9 h9 tk9 k9 => ?_
        rename Fr _ _ _ _ => F6
        rename News _ _ _ _ => N6
        replace F6 := F6.keeps k9
        replace N6 := N6.grown k9
        rw [hpe]
        try dsimp only
        try k_fold
        k_steps
        rename Fr _ _ _ _ => F7
        rename News _ _ _ _ => N7
        refine append_News F7 N7 hmD (fun _ h => nomatch h) hsz fun h' F8 N8 => ?_
        clear F7 N7
        try dsimp only
        try k_fold
        k_steps
        rename Fr _ _ _ _ => F9
        rename News _ _ _ _ => N9
        exact ⟨h', _, _, _, List.length _, rfl, F9, N9, by rw [hn]; exact Nat.lt_succ_self _, done ++ [_], _, items ++ [.str (tx (prt c)) t9], k + 1, _, _, by simp [hq1], rfl, by simp, hP.snoc (.str _ h42 .nil), rfl, rfl, rfl, rfl, rfl, by rw [hlen]; rfl, by rw [hl]; rfl⟩
end Mine

-- C11
namespace Mine
theorem topOff_C11 : True := by
  w_top off
  trivial
end Mine
namespace Mine
open PySem PySem.W PyProof.Rows PySem.Calls PySem.Spec
local macro_rules | `(tactic| walk_at "eval ListComp") => `(tactic| ((with_reducible refine' comp_eval ?hclos ?hcell ?hkind ?hnames ?hs ?_); (case hclos => with_unfolding_all rfl); (case hcell => decide); (case hkind => with_unfolding_all rfl); (case hnames => decide); (case hs => intro _; with_unfolding_all rfl)))
local macro_rules | `(tactic| walk_at "newList") => `(tactic| (refine newList_X (by assumption) (by assumption) ?_; intro _ _ _ _))
local macro_rules | `(tactic| walk_at "call ref") => `(tactic| (refine wpAny_call ?_))
local macro_rules | `(tactic| walk_at "callWith ref") => `(tactic| ((with_reducible show wpAny _ _ (callWith _ (Value.ref _) _ (backTo _ (starEach (_ :: _) _)) []) _ _ _); (refine callWith_bnd (by assumption) (by first | exact .head _ | exact .tail _ (.head _) | exact .tail _ (.tail _ (.head _))) ?_ (by rfl) (by rfl))))
local macro_rules | `(tactic| walk_at "And") => `(tactic| ((with_reducible show BndAt _ _ _ ∧ _); (rename News _ _ _ _ => bndN); refine ⟨BndAt.of bndN (by first | exact .head _ | exact .tail _ (.head _) | exact .tail _ (.tail _ (.head _))), ?_⟩))
local macro_rules | `(tactic| walk_at "BndAt") => `(tactic| ((rename News _ _ _ _ => bndN); exact BndAt.of bndN (by first | exact .head _ | exact .tail _ (.head _) | exact .tail _ (.tail _ (.head _)))))
local macro_rules | `(tactic| walk_at "exec While Compare cons nil") => `(tactic| (refine Hold.stop ?_))
local macro_rules | `(tactic| walk_at "exec While BoolOp cons nil") => `(tactic| (refine Hold.stop ?_))
local macro_rules | `(tactic| walk_at "exec If") => `(tactic| (refine If_hold ?_))
local macro_rules | `(tactic| walk_at "subscriptTail Name Name ref int") => `(tactic| (refine Hold.stop ?_))
local macro_rules | `(tactic| walk_at "formatField str") => `(tactic| (refine Hold.stop ?_))

/-- the sign of the end -/
def sg (fl : Bool) : List Nat := if fl then [42] else []
def dot (fl : Bool) : List (List Nat) := if fl then [[46, 42]] else []
def jnA (h₀ : Heap) (vs : List Value) (bl nl : Nat) (star lp D mm : Addr) (n : Nat) (m : Str → Option Value) (news : List (Addr × Obj)) : Prop :=
  ∃ i k tk1 tk2, i + n = bl ∧ news = [(mm, bndObj D), (D, listOf (List.toArray (vs.take i)) k)] ∧
    m (Str.ofString "inp") = some (.ref lp) ∧ m (Str.ofString "STAR") = some (.ref star) ∧
    m (Str.ofString "res") = some (.ref D) ∧ m (Str.ofString "add") = some (.ref mm) ∧ m (Str.ofString "i") = some (.int (i : Int) tk1) ∧ m (Str.ofString "n") = some (.int (nl : Int) tk2)
theorem jn_map {star lp D mm : Addr} {tk1 tk2 : Tok} {m : Str → Option Value} {j nn : Int}
    (e1 : m (Str.ofString "inp") = some (.ref lp)) (e2 : m (Str.ofString "STAR") = some (.ref star))
    (e4 : m (Str.ofString "res") = some (.ref D)) (e5 : m (Str.ofString "add") = some (.ref mm)) (e6 : m (Str.ofString "i") = some (.int j tk1)) (e7 : m (Str.ofString "n") = some (.int nn tk2)) :
    m = fun y => if y = Str.ofString "i" then some (.int j tk1) else if y = Str.ofString "n" then some (.int nn tk2) else if y = Str.ofString "add" then some (.ref mm)
      else if y = Str.ofString "res" then some (.ref D) else if y = Str.ofString "inp" then some (.ref lp) else if y = Str.ofString "STAR" then some (.ref star) else m y := by
  funext y
  repeat (split; · next h => subst h; assumption)
  rfl
theorem PartsAre.split {star : Addr} : ∀ {cs ds : List Nat} {vs : List Value}, PartsAre star vs (cs ++ ds) → ∃ v1 v2, vs = v1 ++ v2 ∧ PartsAre star v1 cs ∧ PartsAre star v2 ds
  | [], ds, vs, h => ⟨[], vs, rfl, .nil, h⟩
  | c :: cs, ds, vs, h => by
    cases h with
    | star h => obtain ⟨v1, v2, rfl, h1, h2⟩ := PartsAre.split h; exact ⟨_ :: v1, v2, rfl, .star h1, h2⟩
    | str t hc h => obtain ⟨v1, v2, rfl, h1, h2⟩ := PartsAre.split h; exact ⟨_ :: v1, v2, rfl, .str t hc h1, h2⟩
theorem PartsAre.toStrs {star : Addr} {vs : List Value} {cs : List Nat} (h : PartsAre star vs cs) (h42 : 42 ∉ cs) : StrsAre vs ((cs.map prt).map tx) := by
  induction h with
  | nil => exact .nil
  | star _ ih => exact absurd (List.mem_cons_self ..) h42
  | str t hc _ ih => exact .cons _ t (ih fun h => h42 (List.mem_cons_of_mem _ h))
theorem StrsAre.app {vs ws : List Value} {xs ys : List Str} (h : StrsAre vs xs) (h2 : StrsAre ws ys) : StrsAre (vs ++ ws) (xs ++ ys) := by
  induction h with
  | nil => exact h2
  | cons x t _ ih => exact .cons x t ih
theorem prt_len (c : Nat) : (prt c).length ≤ 2 := by
  unfold prt esc
  split
  · decide
  · split
    · decide
    · exact Nat.le_succ_of_le (Nat.le_refl 1)
theorem flat_le (B : Nat) : ∀ ls : List (List Nat), (∀ l ∈ ls, l.length ≤ B) → ls.flatten.length ≤ ls.length * B
  | [], _ => by simp
  | x :: r, h => by
    have h1 := h x (List.mem_cons_self ..)
    have h2 := flat_le B r fun l hl => h l (List.mem_cons_of_mem _ hl)
    rw [List.flatten_cons, List.length_append, List.length_cons, Nat.succ_mul]
    omega
theorem PartsAre.item {star : Addr} {vs : List Value} {cs : List Nat} (h : PartsAre star vs cs) (h42 : 42 ∉ cs) {i : Nat} (hi : i < cs.length) : ∃ x t, vs[i]? = some (.str x t) := by
  have hi' : i < vs.length := by rw [h.len]; exact hi
  obtain ⟨x, t, e⟩ := h.strs h42 vs[i] (List.getElem_mem hi')
  exact ⟨x, t, by rw [List.getElem?_eq_getElem hi', e]⟩
theorem c_join {w : World} {p : Program} {loose : List Str} {mean : ExcName → Option Value} {mg mb : Str → Option Value} {A : Around} {s : Shared} {R : Result → Shared → Prop} {b : List Nat} {fl : Bool} {star lp : Addr} {vs : List Value} {so : Obj} (hl0 : s.heap.IsList lp vs.toArray) (hP0 : PartsAre star vs (b ++ sg fl)) (hb : 42 ∉ b) (hbl : b.length ≤ 10) (hstar : s.heap.get? star = some so)
    (X : (KK w.params).In s.heap) (T : Top p loose mean mg mb s.heap) (hA : Rm A 2)
    (ret : ∀ t h' tk', Kp s.heap h' → R (.ok (.ret (.str (tx ([40, 63, 115, 58] ++ (b.map prt ++ dot fl).flatten ++ [41, 92, 90])) t))) { s with heap := h', toks := tk' }) :
    codeAny (model PG w) A (.call (.ref 96) ⟨[.ref lp, .ref star], []⟩) R s := by
  obtain ⟨v1, v2, rfl, hP, hP2⟩ := hP0.split
  have hv1 : v1.length = b.length := hP.len
  have hv2 : v2.length = (sg fl).length := hP2.len
  have hfl : (sg fl).length ≤ 1 := by cases fl <;> decide
  refine fill ?_
  k_fill
  intro _
  have hA0 := hA
  obtain ⟨hh, hdp, hun⟩ := hA
  refine' enter (binds := [(Str.ofString "inp", .ref lp), (Str.ofString "STAR", .ref star)]) ?k3 ?k5 ?k8 ?k6 ?k7 ?k9 ?kB ?_ ?c2 ?c3 ?c4 ?c5
  case k3 => exact X
  case k5 => exact T
  case k6 => k_is
  case k7 => k_is
  case k8 => (simp only [recursionLimit]; omega)
  case k9 => exact BindsTo.of_eq rfl
  case kB => exact locs rfl
  case c2 => exact rfl
  case c3 => exact rfl
  case c4 => exact rfl
  case c5 => decide
  intro L h₁ F N
  try dsimp only
  try k_fold

  have hD0 : s.heap.objs.size ≤ h₁.objs.size := Nat.le_trans F.above (Nat.le_of_lt F.ns.lt)
  k_steps
  rename Fr _ _ _ _ => F1
  rename News _ _ _ _ => N1
  try dsimp only at F1 N1 ⊢
  generalize hDz : h₁.objs.size = D at F1 N1 hD0 ⊢
  refine getAttr_append (items := #[]) ⟨_, (N1 _ (.head _)).1⟩ fun h2 m tk2 hm hsz2 k2 => ?_
  have F2 := F1.keeps k2
  have hmD : m ≠ D := fun e => Nat.lt_irrefl D (Nat.lt_of_lt_of_le (Heap.lt_size (N1 _ (.head _)).1) (e ▸ hsz2))
  have N2 : News s.heap L h2 ((m, bndObj D) :: [(D, listOf #[] 0)]) := by
    intro p hp
    rcases hp with _ | ⟨_, hp⟩
    · refine ⟨hm, fun e => ?_, ?_⟩
      · exact Nat.lt_irrefl L (Nat.lt_of_lt_of_le F1.ns.lt (e ▸ hsz2))
      · exact Heap.get?_none_of_le (Nat.le_trans (Nat.le_trans F1.above (Nat.le_of_lt F1.ns.lt)) hsz2)
    · exact (N1.grown k2) _ ‹_›
  clear F1 N1 hm hsz2 k2
  try dsimp only
  try k_fold
  k_steps
  rename Fr _ _ _ _ => F3
  refine kun_lenL (k := ((b.length + (sg fl).length : Nat) : Int)) (F3.lst hl0) (by rw [List.size_toArray, List.length_append, hv1, hv2]) (by omega) ?_
  try dsimp only
  try k_fold
  k_steps
  rename Fr _ _ _ _ => F3
  rename News _ _ _ _ => N3
  refine unpackItemsN_ F3 N3 (News.isTup N3 (.head _)) hh rfl fun h3 F3 N3 => ?_
  try dsimp only
  try k_fold
  k_steps
  refine Hold.go ?_
  rename Fr _ _ _ _ => F4
  rename News _ _ _ _ => N4
  refine While_inv2 (J := jnA s.heap v1 b.length (b.length + (sg fl).length) star lp D m) (n₀ := b.length) F4 (fun p hp => N4 p (.tail _ hp)) ⟨0, 0, _, _, by omega, rfl, rfl, rfl, rfl, rfl, rfl, rfl⟩ ?_
  clear F4 N4
  intro n m₁ news₁ h₅ tk₅ F5 N5 J5
  obtain ⟨i, k, tk1, tk2', hin, rfl, e1, e2, e4, e5, e6, e7⟩ := J5
  rw [jn_map e1 e2 e4 e5 e6 e7] at F5
  have hi0 : 0 ≤ (i : Int) := Int.natCast_nonneg _
  have hszt : (List.toArray (v1.take i)).size ≤ sizeLine := by
    rw [List.size_toArray, List.length_take]
    exact Nat.le_trans (Nat.min_le_right _ _) (by rw [hv1]; exact Nat.le_trans hbl (by decide))
  rcases n with _ | n
  · cases fl
    · have hl : ((b.length + (sg false).length : Nat) : Int) = (i : Int) := by simp [sg]; omega
      rw [hl] at F5
      try dsimp only
      try k_fold
      k_steps
      refine Hold.go ?_
      rename Fr _ _ _ _ => F6
      rename News _ _ _ _ => N6
      refine While_inv2 (J := fun _ m' n' => m' = _ ∧ n' = _) (n₀ := 0) F6 N6 ⟨rfl, rfl⟩ ?_
      clear F6 N6
      rintro n m₁ news₁ h₆ tk₆ F6 N6 ⟨rfl, rfl⟩
      try dsimp only
      try k_fold
      k_steps
      rename News _ _ _ _ => N7
      obtain ⟨ls, hls⟩ : ∃ ls, ls = b.map prt ++ dot false := ⟨_, rfl⟩
      have hls2 : ∀ l ∈ ls, l.length ≤ 100 := by
        intro l hm
        rw [hls, dot, if_neg (by decide), List.append_nil] at hm
        obtain ⟨c, _, rfl⟩ := List.mem_map.mp hm
        exact Nat.le_trans (prt_len c) (by decide)
      have hls1 : ls.length ≤ 11 := by rw [hls, dot, if_neg (by decide)]; simp; omega
      rw [← hls] at ret
      refine join_cat (ls := ls) (News.isList N7 (.tail _ (.head _))) (by rw [hls, show v1.take i = v1 by rw [List.take_of_length_le]; omega, dot, if_neg (by decide), List.append_nil]; exact hP.toStrs hb) (by omega) hls2 fun t9 k9 => ?_
      try dsimp only
      try k_fold
      k_steps
      have hfz : (tx ls.flatten).length ≤ 1100 := by rw [tx_len]; exact Nat.le_trans (flat_le 100 ls hls2) (Nat.mul_le_mul_right 100 hls1)
      refine Hold.go ?_
      refine PyProof.Rows.formatField_str (fun t8 tk8 => ?_) (Nat.le_trans hfz (by decide))
      try dsimp only
      try k_fold
      k_steps
      rename Fr _ _ _ _ => F9
      exact finS (s := s) ret F9.keep (by rw [show Str.empty ++ Str.ofString "(?s:" = tx [40, 63, 115, 58] by decide +kernel, show Str.ofString ")\\Z" = tx [41, 92, 90] by decide +kernel, tx_app, tx_app])
    · have hl : ((b.length + (sg true).length : Nat) : Int) = (i : Int) + 1 := by simp [sg]; omega
      rw [hl] at F5
      have hxi2 : (v1 ++ v2)[((i : Nat) : Int).toNat]? = some (.ref star) := by
        have e2 : v2 = [.ref star] := by
          have h2 : PartsAre star v2 [42] := hP2
          cases h2 with
          | star h => cases h; rfl
          | str t hc h => exact absurd rfl hc
        rw [Int.toNat_natCast, List.getElem?_append_right (by omega), e2, show i - v1.length = 0 by omega]; rfl
      try dsimp only
      try k_fold
      k_steps
      rename Fr _ _ _ _ => F6
      refine Hold.go ?_
      refine item_listL (F6.lst hl0) hi0 (by omega) hxi2 ?_
      try dsimp only
      try k_fold
      k_steps
      refine Hold.go ?_
      rename Fr _ _ _ _ => F6
      rename News _ _ _ _ => N6
      refine While_inv2 (J := fun _ m' n' => m' = _ ∧ n' = _) (n₀ := 0) F6 N6 ⟨rfl, rfl⟩ ?_
      clear F6 N6
      rintro n m₁ news₁ h₆ tk₆ F6 N6 ⟨rfl, rfl⟩
      try dsimp only
      try k_fold
      k_steps
      rename Fr _ _ _ _ => F7
      refine Hold.go ?_
      refine item_listL (F7.lst hl0) hi0 (by omega) hxi2 ?_
      try dsimp only
      try k_fold
      k_steps
      rw [if_pos (by first | rfl | trivial | simp)]
      refine Hold.go ?_
      k_steps
      rename Fr _ _ _ _ => F7
      rename News _ _ _ _ => N7
      refine append_News F7 N7 hmD (fun _ h => nomatch h) hszt fun h' F8 N8 => ?_
      clear F7 N7
      try dsimp only
      try k_fold
      k_steps
      try unfold WhileStep2
      try dsimp only
      try k_fold
      k_steps
      unfold WhileStep2
      try dsimp only
      try k_fold
      k_steps
      rename News _ _ _ _ => N7
      obtain ⟨ls, hls⟩ : ∃ ls, ls = b.map prt ++ dot true := ⟨_, rfl⟩
      have hls2 : ∀ l ∈ ls, l.length ≤ 100 := by
        intro l hm
        rw [hls, dot, if_pos rfl] at hm
        rcases List.mem_append.mp hm with hm | hm
        · obtain ⟨c, _, rfl⟩ := List.mem_map.mp hm
          exact Nat.le_trans (prt_len c) (by decide)
        · cases hm with
          | head => decide
          | tail _ h => cases h
      have hls1 : ls.length ≤ 11 := by rw [hls, dot, if_pos rfl]; simp; omega
      rw [← hls] at ret
      have hS : ∀ tt, StrsAre (v1 ++ [.str (Str.ofString ".*") tt]) (ls.map tx) := fun tt => by
        rw [hls, List.map_append]; exact Mine.StrsAre.app (hP.toStrs hb) (.cons _ _ .nil)
      rw [show v1.take i = v1 by rw [List.take_of_length_le]; omega] at N7
      have e7 := News.isList N7 (.tail _ (.head _))
      rw [List.push_toArray] at e7
      refine join_cat (ys := ?ys) (ls := ls) ?hl7 ?hs7 ?h17 hls2 fun t9 k9 => ?_
      case hl7 => exact e7
      case hs7 => exact hS _
      case h17 => omega
      try dsimp only
      try k_fold
      k_steps
      have hfz : (tx ls.flatten).length ≤ 1100 := by rw [tx_len]; exact Nat.le_trans (flat_le 100 ls hls2) (Nat.mul_le_mul_right 100 hls1)
      refine Hold.go ?_
      refine PyProof.Rows.formatField_str (fun t8 tk8 => ?_) (Nat.le_trans hfz (by decide))
      try dsimp only
      try k_fold
      k_steps
      rename Fr _ _ _ _ => F9
      exact finS (s := s) ret F9.keep (by rw [show Str.empty ++ Str.ofString "(?s:" = tx [40, 63, 115, 58] by decide +kernel, show Str.ofString ")\\Z" = tx [41, 92, 90] by decide +kernel, tx_app, tx_app])
  · have hn0 : 0 ≤ (n : Int) := Int.natCast_nonneg _
    have hs0 : 0 ≤ ((sg fl).length : Int) := Int.natCast_nonneg _
    have hl : ((b.length + (sg fl).length : Nat) : Int) = (i : Int) + (n : Int) + 1 + ((sg fl).length : Int) := by omega
    obtain ⟨xi, ti, hxi⟩ := hP.item hb (i := i) (by omega)
    have hxi2 : (v1 ++ v2)[((i : Nat) : Int).toNat]? = some (.str xi ti) := by
      rw [Int.toNat_natCast, List.getElem?_append_left (by omega)]; exact hxi
    rw [hl] at F5
    try dsimp only
    try k_fold
    k_steps
    rename Fr _ _ _ _ => F6
    refine Hold.go ?_
    refine item_listL (F6.lst hl0) hi0 (by omega) hxi2 ?_
    try dsimp only
    try k_fold
    k_steps
    refine wpAny_isNot_other (by rfl) (by intro h; cases h) ?_
    try dsimp only
    try k_fold
    k_steps
    rename Fr _ _ _ _ => F6
    refine Hold.go ?_
    refine item_listL (F6.lst hl0) hi0 (by omega) hxi2 ?_
    try dsimp only
    try k_fold
    k_steps
    rename Fr _ _ _ _ => F7
    rename News _ _ _ _ => N7
    refine append_News F7 N7 hmD (fun _ h => nomatch h) hszt fun h' F8 N8 => ?_
    clear F7 N7
    try dsimp only
    try k_fold
    k_steps
    rename Fr _ _ _ _ => F9
    rename News _ _ _ _ => N9
    exact ⟨_, _, _, _, n, rfl, F9, N9, Nat.lt_succ_self _, i + 1, k + 1, _, _, by omega, by simp [List.take_add_one, hxi], rfl, rfl, rfl, rfl, rfl, by rw [hl]; rfl⟩
end Mine

-- C12
namespace Mine
theorem topOff_C12 : True := by
  w_top off
  trivial
end Mine
namespace Mine
open PySem PySem.W PyProof.Rows PySem.Calls PySem.Spec
local macro_rules | `(tactic| walk_at "none such") => `(tactic| skip)
local macro_rules | `(tactic| walk_at "none such") => `(tactic| skip)
local macro_rules | `(tactic| walk_at "none such") => `(tactic| skip)
local macro_rules | `(tactic| walk_at "none such") => `(tactic| skip)
local macro_rules | `(tactic| walk_at "none such") => `(tactic| skip)
local macro_rules | `(tactic| walk_at "none such") => `(tactic| skip)
local macro_rules | `(tactic| walk_at "none such") => `(tactic| skip)
local macro_rules | `(tactic| walk_at "none such") => `(tactic| skip)
local macro_rules | `(tactic| walk_at "none such") => `(tactic| skip)
local macro_rules | `(tactic| walk_at "none such") => `(tactic| skip)
local macro_rules | `(tactic| walk_at "none such") => `(tactic| skip)
local macro_rules | `(tactic| walk_at "eval ListComp") => `(tactic| ((with_reducible refine' comp_eval ?hclos ?hcell ?hkind ?hnames ?hs ?_); (case hclos => with_unfolding_all rfl); (case hcell => decide); (case hkind => with_unfolding_all rfl); (case hnames => decide); (case hs => intro _; with_unfolding_all rfl)))
local macro_rules | `(tactic| walk_at "newList") => `(tactic| (refine newList_X (by assumption) (by assumption) ?_; intro _ _ _ _))
local macro_rules | `(tactic| walk_at "call ref") => `(tactic| (refine wpAny_call ?_))


/-- a new object into the news -/
theorem addNews {h₀ h h' : Heap} {L D : Addr} {m : Str → Option Value} {o : Obj} {news : List (Addr × Obj)} (F : Fr h₀ L h m) (N : News h₀ L h' news) (hD : h.objs.size ≤ D) (e : h'.get? D = some o) : News h₀ L h' ((D, o) :: news) := by
  intro p hp
  rcases hp with _ | ⟨_, hp⟩
  · exact ⟨e, fun e => Nat.lt_irrefl L (Nat.lt_of_lt_of_le F.ns.lt (e ▸ hD)), Heap.get?_none_of_le (Nat.le_trans (Nat.le_trans F.above (Nat.le_of_lt F.ns.lt)) hD)⟩
  · exact N _ ‹_›
theorem c_translate {w : World} {p : Program} {loose : List Str} {mean : ExcName → Option Value} {mg mb : Str → Option Value} {A : Around} {s : Shared} {R : Result → Shared → Prop} {b : List Nat} {fl : Bool} {t : Tok} (hq : PatOk (b ++ sg fl)) (hb : 42 ∉ b) (hbl : b.length ≤ 10)
    (X : (KK w.params).In s.heap) (T : Top p loose mean mg mb s.heap) (hA : Rm A 4)
    (ret : ∀ t h' tk', Kp s.heap h' → R (.ok (.ret (.str (tx ([40, 63, 115, 58] ++ (b.map prt ++ dot fl).flatten ++ [41, 92, 90])) t))) { s with heap := h', toks := tk' }) :
    codeAny (model PG w) A (.call (.ref 70) ⟨[.str (tx (b ++ sg fl)) t], []⟩) R s := by
  refine fill ?_
  k_fill
  intro _
  have hA0 := hA
  obtain ⟨hh, hdp, hun⟩ := hA
  refine' enter (binds := [(Str.ofString "pat", .str (tx (b ++ sg fl)) t)]) ?k3 ?k5 ?k8 ?k6 ?k7 ?k9 ?kB ?_ ?c2 ?c3 ?c4 ?c5
  case k3 => exact X
  case k5 => exact T
  case k6 => k_is
  case k7 => k_is
  case k8 => (simp only [recursionLimit]; omega)
  case k9 => exact BindsTo.of_eq rfl
  case kB => exact locs rfl
  case c2 => exact rfl
  case c3 => exact rfl
  case c4 => exact rfl
  case c5 => decide
  intro L h₁ F N
  try dsimp only
  try k_fold

  k_steps
  rename Fr _ _ _ _ => F1
  rename News _ _ _ _ => N1
  refine call_object ?_
  have F2 := F1.push starObj
  have N2 := N1.push F1 starObj
  clear F1 N1
  try dsimp only
  try k_fold
  k_steps
  rename Fr _ _ _ _ => F1
  rename News _ _ _ _ => N1
  refine c_tr (A := A.deeper _) hq (N1 _ (.head _)).1 (X.keeps F1.keep) (T.keeps F1.keep) (Rm.deeper hA0) fun D vs h' tk' k hD hL hP => ?_
  obtain ⟨o, ho, hc, nn, hd⟩ := hL
  replace N1 := addNews F1 (N1.grown k) hD ho
  replace F1 := F1.keeps k
  try dsimp only
  try k_fold
  k_steps
  rename Fr _ _ _ _ => F3
  rename News _ _ _ _ => N3
  refine c_join (A := A.deeper _) (vs := vs) (fl := fl) (b := b) ⟨o, (N3 _ (.head _)).1, hc, nn, hd⟩ hP hb hbl (N3 _ (.tail _ (.head _))).1 (X.keeps F3.keep) (T.keeps F3.keep) (Rm.le (n := 3) (Rm.deeper hA0) (by decide)) fun t9 h9 tk9 k9 => ?_
  replace F3 := F3.keeps k9
  try dsimp only
  try k_fold
  exact ret _ _ _ F3.keep
end Mine

-- C13
namespace Mine
theorem topOff_C13 : True := by
  w_top off
  trivial
end Mine
namespace Mine
open PySem PySem.W PyProof.Rows PySem.Calls PySem.Spec
set_option maxHeartbeats 500000
local macro_rules | `(tactic| walk_at "eval ListComp") => `(tactic| ((with_reducible refine' comp_eval ?hclos ?hcell ?hkind ?hnames ?hs ?_); (case hclos => with_unfolding_all rfl); (case hcell => decide); (case hkind => with_unfolding_all rfl); (case hnames => decide); (case hs => intro _; with_unfolding_all rfl)))
local macro_rules | `(tactic| walk_at "call ref") => `(tactic| (refine wpAny_call ?_))
local macro_rules | `(tactic| walk_at "binaryOp Mult ref int") => `(tactic| (refine Hold.stop ?_))
local macro_rules | `(tactic| walk_at "binaryOp Add ref ref") => `(tactic| (refine Hold.stop ?_))
local macro_rules | `(tactic| walk_at "exec While Compare cons nil") => `(tactic| (refine Hold.stop ?_))
local macro_rules | `(tactic| walk_at "exec If") => `(tactic| (refine If_hold ?_))

def rdJ (b bd : List Nat) (D : Addr) (n : Nat) (m : Str → Option Value) (news : List (Addr × Obj)) : Prop :=
  ∃ done rest items k tk1 tkb, b = done ++ rest ∧ n = rest.length ∧ news = [(D, listOf (List.toArray items) k)] ∧ StrsAre items (done.map fun c => tx [c]) ∧
    m (Str.ofString "body") = some (.str (tx bd) tkb) ∧ m (Str.ofString "signs") = some (.ref D) ∧ m (Str.ofString "k") = some (.int (((done.map prt).flatten.length : Nat) : Int) tk1)
theorem rd_map {bd : List Nat} {D : Addr} {tk1 tkb : Tok} {m : Str → Option Value} {j : Int}
    (e1 : m (Str.ofString "body") = some (.str (tx bd) tkb)) (e2 : m (Str.ofString "signs") = some (.ref D)) (e3 : m (Str.ofString "k") = some (.int j tk1)) :
    m = fun y => if y = Str.ofString "k" then some (.int j tk1) else if y = Str.ofString "signs" then some (.ref D) else if y = Str.ofString "body" then some (.str (tx bd) tkb) else m y := by
  funext y
  repeat (split; · next h => subst h; assumption)
  rfl
theorem prt_pos (c : Nat) : 1 ≤ (prt c).length := by
  unfold prt esc
  split
  · decide
  · split
    · decide
    · exact Nat.le_refl 1
theorem strs_rep (t : Tok) : ∀ n : Nat, StrsAre (List.replicate n [Value.str (Str.ofString "?") t]).flatten ((List.replicate n 63).map fun c => tx [c])
  | 0 => .nil
  | n + 1 => by
    rw [List.replicate_succ, List.replicate_succ, List.flatten_cons, List.map_cons, q_tx]
    have := strs_rep t n
    rw [q_tx] at this
    exact .cons _ t this
theorem Lst.ne46 {c : Nat} (h : Lst c) : c ≠ 46 := fun e => by
  subst e
  revert h
  unfold Lst
  decide
theorem Lst.ne92 {c : Nat} (h : Lst c) : c ≠ 92 := fun e => by
  subst e
  revert h
  unfold Lst
  decide
theorem not_star {rest : List Nat} {fl : Bool} (hr : ∀ c ∈ rest, Lst c ∨ c = 63) (e : (rest.map prt ++ dot fl).flatten = [42]) : False := by
  rcases rest with _ | ⟨c, rest⟩
  · cases fl <;> simp [dot] at e
  · have hc := hr c (List.mem_cons_self ..)
    rw [List.map_cons, List.cons_append, List.flatten_cons] at e
    rcases hc with hc | hc
    · by_cases h45 : c = 45
      · rw [h45] at e; simp [prt, esc] at e
      · have h63 : c ≠ 63 := fun h => by rw [h] at hc; revert hc; unfold Lst; decide
        simp [prt, esc, h45, h63] at e
        exact hc.ne42 e.1
    · rw [hc] at e; simp [prt] at e
theorem not_dotstar {rest : List Nat} {fl : Bool} {c : Nat} (hc : Lst c ∨ c = 63) (hr : ∀ c ∈ rest, Lst c ∨ c = 63) (e : prt c ++ (rest.map prt ++ dot fl).flatten = [46, 42]) : False := by
  rcases hc with hc | hc
  · by_cases h45 : c = 45
    · rw [h45] at e; simp [prt, esc] at e
    · have h63 : c ≠ 63 := fun h => by rw [h] at hc; revert hc; unfold Lst; decide
      simp [prt, esc, h45, h63] at e
      exact hc.ne46 e.1
  · rw [hc] at e
    have e2 : (rest.map prt ++ dot fl).flatten = [42] := by simpa [prt] using e
    exact not_star hr e2
theorem c_read {w : World} {p : Program} {loose : List Str} {mean : ExcName → Option Value} {mg mb : Str → Option Value} {A : Around} {s : Shared} {R : Result → Shared → Prop} {b : List Nat} {fl : Bool} {t : Tok} {bd : List Nat} (hbd : bd = (b.map prt ++ dot fl).flatten) (hb : ∀ c ∈ b, Lst c ∨ c = 63) (hbl : b.length ≤ 10)
    (X : (KK w.params).In s.heap) (T : Top p loose mean mg mb s.heap) (hA : Rm A 2)
    (ret : ∀ D vs h' tk', Kp s.heap h' → s.heap.get? D = none → h'.IsList D (List.toArray vs) → StrsAre vs ((b ++ if fl then List.replicate (10 - b.length) 63 else []).map fun c => tx [c]) → R (.ok (.ret (.ref D))) { s with heap := h', toks := tk' }) :
    codeAny (model PG w) A (.call (.ref 176) ⟨[.str (tx ([40, 63, 115, 58] ++ bd ++ [41, 92, 90])) t], []⟩) R s := by
  obtain ⟨q, hq⟩ : ∃ q, q = [40, 63, 115, 58] ++ bd ++ [41, 92, 90] := ⟨_, rfl⟩
  rw [← hq]
  have hbdl : bd.length ≤ 22 := by
    rw [hbd]
    refine Nat.le_trans (flat_le 2 _ fun l hm => ?_) (Nat.mul_le_mul_right 2 (m := 11) ?_)
    · rcases List.mem_append.mp hm with hm | hm
      · obtain ⟨c, _, rfl⟩ := List.mem_map.mp hm
        exact prt_len c
      · revert hm; cases fl <;> simp [dot]; rintro rfl; decide
    · rw [List.length_append, List.length_map]
      cases fl <;> simp [dot] <;> omega
  have htb : (tx bd).length ≤ 22 := by rw [tx_len]; exact hbdl
  have hql : (tx q).length = bd.length + 7 := by rw [tx_len, hq]; simp
  refine fill ?_
  k_fill
  intro _
  have hA0 := hA
  obtain ⟨hh, hdp, hun⟩ := hA
  refine' enter (binds := [(Str.ofString "text", .str (tx q) t)]) ?k3 ?k5 ?k8 ?k6 ?k7 ?k9 ?kB ?_ ?c2 ?c3 ?c4 ?c5
  case k3 => exact X
  case k5 => exact T
  case k6 => k_is
  case k7 => k_is
  case k8 => (simp only [recursionLimit]; omega)
  case k9 => exact BindsTo.of_eq rfl
  case kB => exact locs rfl
  case c2 => exact rfl
  case c3 => exact rfl
  case c4 => exact rfl
  case c5 => decide
  intro L h₁ F N
  try dsimp only
  try k_fold

  obtain ⟨s1, s2, s3⟩ := sl_read bd hq
  k_steps
  · rename (bne _ _ = true) => e9
    rw [s1] at e9
    exact absurd e9 (by decide +kernel)
  · rename (bne _ _ = true) => e9
    rw [s2] at e9
    exact absurd e9 (by decide +kernel)
  rw [if_neg (by decide)]
  refine Hold.go ?_
  k_steps
  refine Hold.go ?_
  rename Fr _ _ _ _ => F4
  rename News _ _ _ _ => N4
  rw [s3] at F4
  refine While_inv2 (J := rdJ b bd _) (n₀ := b.length) F4 N4 ⟨[], b, [], 0, _, _, rfl, rfl, rfl, .nil, rfl, rfl, rfl⟩ ?_
  clear F4 N4
  intro n m₁ news₁ h₅ tk₅ F5 N5 J5
  obtain ⟨done, rest, items, k, tk1, tkb, hb1, hn, rfl, hS, e1, e2, e3⟩ := J5
  rw [rd_map e1 e2 e3] at F5
  obtain ⟨suf, hsuf⟩ : ∃ suf, suf = (rest.map prt ++ dot fl).flatten := ⟨_, rfl⟩
  obtain ⟨pre, hpre⟩ : ∃ pre, pre = (done.map prt).flatten := ⟨_, rfl⟩
  have hbs : bd = pre ++ suf := by rw [hbd, hb1, hsuf, hpre]; simp
  rw [← hpre] at F5
  have hsl : Txt.slice (tx bd) (some (pre.length : Int)) none = tx suf := by
    rw [sl_from _ _ (by rw [hbs]; simp), hbs, List.drop_left]
  have hlen : ((tx bd).length : Int) = (pre.length : Int) + (suf.length : Int) := by rw [tx_len, hbs]; simp
  have hp0 : 0 ≤ (pre.length : Int) := Int.natCast_nonneg _
  have hsz0 : items.length ≤ 10 := by rw [hS.len_eq, List.length_map]; rw [hb1, List.length_append] at hbl; omega
  have hsz : (List.toArray items).size ≤ sizeLine := by rw [List.size_toArray]; exact Nat.le_trans hsz0 (by decide)
  have hdl : items.length = done.length := by rw [hS.len_eq, List.length_map]
  rcases rest with _ | ⟨c, rest⟩
  · rw [List.append_nil] at hb1
    subst hb1
    cases fl
    · have hs0 : (suf.length : Int) = 0 := by rw [hsuf]; rfl
      try dsimp only
      try k_fold
      k_steps
      exact ret _ items h₅ _ F5.keep (N5 _ (.head _)).2.2 (News.isList N5 (.head _)) (by simpa using hS)
    · have hs0 : (suf.length : Int) = 2 := by rw [hsuf]; rfl
      have hs1 : suf = [46, 42] := by rw [hsuf]; rfl
      try dsimp only
      try k_fold
      k_steps
      rw [hsl, hs1, if_pos (by decide +kernel)]
      refine Hold.go ?_
      k_steps
      rename News _ _ _ _ => N7
      refine kun_lenL (k := (items.length : Int)) (News.isList N7 (by first | exact .head _ | exact .tail _ (.head _))) (by rw [List.size_toArray]) (by omega) ?_
      try dsimp only
      try k_fold
      k_steps
      rename Fr _ _ _ _ => F7
      rename News _ _ _ _ => N7
      refine Hold.go (KMa.mul F7 N7 (News.isList N7 (.head _)) (by omega) (by omega) (by simp; omega) rfl fun D8 h8 F8 N8 l8 => ?_)
      try dsimp only
      try k_fold
      k_steps
      rename Fr _ _ _ _ => F7
      rename News _ _ _ _ => N7
      refine Hold.go (kmk_add_lit F7 N7 (News.isList N7 (by first | exact .tail _ (.tail _ (.head _)) | exact .tail _ (.tail _ (.tail _ (.head _))))) (News.isList N7 (.head _)) rfl (fun D9 h9 F9 N9 l9 => ?_) (by simp [sizeLine]; omega))
      try dsimp only
      try k_fold
      k_steps
      rename Fr _ _ _ _ => F7
      rename News _ _ _ _ => N7
      exact ret D9 _ _ _ F7.keep (N7 _ (.head _)).2.2 (News.isList N7 (.head _)) (by
        rw [List.map_append]
        refine Mine.StrsAre.app hS ?_
        rw [if_pos rfl, show 10 - b.length = ((10 : Int) - (items.length : Int)).toNat by omega]
        exact strs_rep _ _)
  · have hsf : suf = prt c ++ (rest.map prt ++ dot fl).flatten := by rw [hsuf]; simp
    have hp1 := prt_pos c
    have hs0 : 1 ≤ (suf.length : Int) := by rw [hsf, List.length_append]; omega
    have hcc : Lst c ∨ c = 63 := hb c (by rw [hb1]; simp)
    have hrr : ∀ c ∈ rest, Lst c ∨ c = 63 := fun x hx => hb x (by rw [hb1]; simp [hx])
    have hne : (tx suf == Str.ofString ".*") = false := by
      rw [show Str.ofString ".*" = tx [46, 42] by decide +kernel]
      refine beq_eq_false_iff_ne.mpr fun e => ?_
      have e := tx_inj e
      rw [hsf] at e
      exact not_dotstar hcc hrr e
    have hitm : ∀ j : Nat, j < suf.length → Txt.item (tx bd) ((pre.length + j : Nat) : Int) = tx [suf.getD j 0] := fun j hj => by
      rw [tx_item (by rw [hbs, List.length_append]; omega), hbs, List.getD_eq_getElem?_getD, List.getElem?_append_right (by omega), Nat.add_sub_cancel_left, List.getD_eq_getElem?_getD]
    by_cases h63 : c = 63
    · have hsf2 : suf = 46 :: (rest.map prt ++ dot fl).flatten := by rw [hsf, h63]; rfl
      have hi0 : Txt.item (tx bd) (pre.length : Int) = tx [46] := by have := hitm 0 (by rw [hsf2]; simp); rw [hsf2] at this; exact this
      have hk9 : ((((done ++ [c]).map prt).flatten.length : Nat) : Int) = (pre.length : Int) + 1 := by rw [hpre, h63]; simp [prt]
      try dsimp only
      try k_fold
      k_steps
      rw [hsl, hne, if_neg (by decide)]
      refine Hold.go ?_
      k_steps
      rw [hi0, if_pos (by decide +kernel)]
      refine Hold.go ?_
      k_steps
      rename Fr _ _ _ _ => F9
      rename News _ _ _ _ => N9
      rw [q_tx, ← h63] at N9
      exact ⟨_, _, _, _, List.length _, rfl, F9, N9, by rw [hn]; exact Nat.lt_succ_self _, done ++ [c], rest, items ++ [_], k + 1, _, _, by rw [hb1]; simp, rfl, by rw [List.push_toArray], (by rw [List.map_append]; exact Mine.StrsAre.app hS (.cons _ _ .nil)), rfl, rfl, by rw [hk9]; rfl⟩
    · have hL := hcc.resolve_right h63
      by_cases h45 : c = 45
      · have hsf2 : suf = 92 :: 45 :: (rest.map prt ++ dot fl).flatten := by rw [hsf, h45]; rfl
        have hi0 : Txt.item (tx bd) (pre.length : Int) = tx [92] := by have := hitm 0 (by rw [hsf2]; simp); rw [hsf2] at this; exact this
        have hi1 : Txt.item (tx bd) ((pre.length : Int) + 1) = tx [45] := by have := hitm 1 (by rw [hsf2]; simp); rw [hsf2] at this; exact this
        have hk9 : ((((done ++ [c]).map prt).flatten.length : Nat) : Int) = (pre.length : Int) + 1 + 1 := by rw [hpre, h45]; simp [prt, esc]; omega
        have hs2 : 2 ≤ (suf.length : Int) := by rw [hsf2]; simp; omega
        try dsimp only
        try k_fold
        k_steps
        rw [hsl, hne, if_neg (by decide)]
        refine Hold.go ?_
        k_steps
        rw [hi0, if_neg (by decide +kernel)]
        refine Hold.go ?_
        k_steps
        rw [hi0, if_pos (by decide +kernel)]
        refine Hold.go ?_
        k_steps
        rename Fr _ _ _ _ => F9
        rename News _ _ _ _ => N9
        rw [hi1, ← h45] at N9
        exact ⟨_, _, _, _, List.length _, rfl, F9, N9, by rw [hn]; exact Nat.lt_succ_self _, done ++ [c], rest, items ++ [_], k + 1, _, _, by rw [hb1]; simp, rfl, by rw [List.push_toArray], (by rw [List.map_append]; exact Mine.StrsAre.app hS (.cons _ _ .nil)), rfl, rfl, by rw [hk9]; rfl⟩
      · have hpc : prt c = [c] := by unfold prt esc; rw [if_neg h63, if_neg h45]
        have hsf2 : suf = c :: (rest.map prt ++ dot fl).flatten := by rw [hsf, hpc]; rfl
        have hi0 : Txt.item (tx bd) (pre.length : Int) = tx [c] := by have := hitm 0 (by rw [hsf2]; simp); rw [hsf2] at this; exact this
        have hk9 : ((((done ++ [c]).map prt).flatten.length : Nat) : Int) = (pre.length : Int) + 1 := by rw [hpre]; simp [hpc]
        try dsimp only
        try k_fold
        k_steps
        rw [hsl, hne, if_neg (by decide)]
        refine Hold.go ?_
        k_steps
        rw [hi0, if_neg (by rw [show Str.ofString "." = tx [46] by decide +kernel, tx1_eq]; simpa using hL.ne46)]
        refine Hold.go ?_
        k_steps
        rw [hi0, if_neg (by rw [show Str.ofString "\\" = tx [92] by decide +kernel, tx1_eq]; simpa using hL.ne92)]
        refine Hold.go ?_
        k_steps
        rename Fr _ _ _ _ => F9
        rename News _ _ _ _ => N9
        rw [hi0] at N9
        exact ⟨_, _, _, _, List.length _, rfl, F9, N9, by rw [hn]; exact Nat.lt_succ_self _, done ++ [c], rest, items ++ [_], k + 1, _, _, by rw [hb1]; simp, rfl, by rw [List.push_toArray], (by rw [List.map_append]; exact Mine.StrsAre.app hS (.cons _ _ .nil)), rfl, rfl, by rw [hk9]; rfl⟩
end Mine

-- L0
namespace Mine
theorem topOff_L0 : True := by
  w_top off
  trivial
end Mine
namespace Mine
open PySem PySem.W PyProof.Rows PySem.Calls PySem.Spec
section
variable {prog : Program} {w : World} {A : Around} {E : Value → Shared → Prop} {s : Shared} {env : Env} {h₀ : Heap} {target : Expr} {body orelse : List Stmt} {Q : Flow → Shared → Prop}

/-- what a turn leaves behind -/
def EStep (h₀ : Heap) (L I : Addr) (oi : Obj) (Jn : (Str → Option Value) → List (Addr × Obj) → Prop) (s : Shared) (Q : Flow → Shared → Prop) (f : Flow) (s₃ : Shared) : Prop :=
  match f with
  | .next | .cont => ∃ h' tk m₂ news₂, s₃ = { s with heap := h', toks := tk } ∧ Fr h₀ L h' m₂ ∧ News h₀ L h' (news₂ ++ [(I, oi)]) ∧ (∀ p ∈ news₂, p.1 ≠ I) ∧ Jn m₂ news₂
  | .brk => Q .next s₃
  | .ret v => Q (.ret v) s₃

theorem codeAny_for_else {R : Result → Shared → Prop} {I t : Addr} {items : Array Value} {m : Str → Option Value} {news : List (Addr × Obj)}
    (hh : A.handled = none) (hIL : I ≠ env.locals) (hI0 : h₀.get? I = none) (htI : t ≠ I)
    (J : Nat → (Str → Option Value) → List (Addr × Obj) → Prop)
    (hT : ∀ i m₁ news₁ h₁, J i m₁ news₁ → Fr h₀ env.locals h₁ m₁ → News h₀ env.locals h₁ news₁ → h₁.IsTuple t items)
    (hit : s.heap.IsTupleIter I t 0) (F : Fr h₀ env.locals s.heap m) (N : News h₀ env.locals s.heap news) (hnI : ∀ p ∈ news, p.1 ≠ I) (h0 : J 0 m news)
    (step : ∀ i v m₁ news₁ h₁ tk₁ oi, items[i]? = some v → J i m₁ news₁ → Fr h₀ env.locals h₁ m₁ → News h₀ env.locals h₁ (news₁ ++ [(I, oi)]) → (∀ p ∈ news₁, p.1 ≠ I) →
      wpAny (model prog w) A (assign target env v) (fun _ s₂ => wpAny (model prog w) A (execs body env) (EStep h₀ env.locals I oi (J (i + 1)) s (fun f s' => R (.ok f) s')) (notedBy (model prog w) A env fun e s' => R (.error e) s') s₂)
        (notedBy (model prog w) A env fun e s' => R (.error e) s') { s with heap := h₁, toks := tk₁ })
    (fin : ∀ m₁ news₁ h₁ tk₁, J items.size m₁ news₁ → Fr h₀ env.locals h₁ m₁ → News h₀ env.locals h₁ news₁ →
      wpAny (model prog w) A (execs orelse env) (fun f s' => R (.ok f) s') (notedBy (model prog w) A env fun e s' => R (.error e) s') { s with heap := h₁, toks := tk₁ }) :
    codeAny (model prog w) A (.forLoop target (.ref I) body orelse env) R s := by
  have W := Walks.tuple (prog := prog) (w := w) hh I t htI items
  refine codeAny_forLoop_any
    (fun k s' => ∃ i h' tk m' news', s' = { s with heap := h', toks := tk } ∧ i + k = items.size ∧ h'.IsTupleIter I t i ∧ Fr h₀ env.locals h' m' ∧ News h₀ env.locals h' news' ∧ (∀ p ∈ news', p.1 ≠ I) ∧ J i m' news')
    ?_ items.size ⟨0, s.heap, s.toks, m, news, rfl, Nat.zero_add _, hit, F, N, hnI, h0⟩
  rintro k s' ⟨i, h', tk, m', news', rfl, hik, hit', F', N', hn', hJ⟩
  have move : ∀ h₁ : Heap, (∀ b o, b ∉ [I] → h'.get? b = some o → h₁.get? b = some o) → Fr h₀ env.locals h₁ m' ∧ News h₀ env.locals h₁ news' := fun h₁ hk =>
    ⟨⟨F'.ns.at' fun o e => hk _ o (fun hm => hIL (List.mem_singleton.mp hm).symm) e, fun b o e => hk b o (fun hm => by rw [List.mem_singleton.mp hm, hI0] at e; cases e) (F'.keep b o e), F'.above⟩,
      fun p hp => ⟨hk _ _ (fun hm => hn' p hp (List.mem_singleton.mp hm)) (N' p hp).1, (N' p hp).2⟩⟩
  by_cases hlt : i < items.size
  · refine W.item i _ _ _ hlt ⟨hit', hT _ _ _ _ hJ F' N'⟩ fun v h₁ tk₁ hv hst hk₁ => ?_
    obtain ⟨F₁, N₁⟩ := move h₁ hk₁
    refine letGo_tupleiter hst.1 ?_
    obtain ⟨oi, hoi, hoc⟩ := id hst.1
    have NI : News h₀ env.locals h₁ (news' ++ [(I, oi)]) := fun p hp => by
      rcases List.mem_append.mp hp with hp | hp
      · exact N₁ p hp
      · rw [List.mem_singleton.mp hp]; exact ⟨hoi, hIL, hI0⟩
    refine wpAny_mono (step i v m' news' h₁ tk₁ oi hv hJ F₁ NI hn') (fun _ s₂ h₂ => wpAny_mono h₂ (fun f s₃ h₃ => ?_) fun _ _ e => e) fun _ _ e => e
    have again : (∃ h' tk m₂ news₂, s₃ = { s with heap := h', toks := tk } ∧ Fr h₀ env.locals h' m₂ ∧ News h₀ env.locals h' (news₂ ++ [(I, oi)]) ∧ (∀ p ∈ news₂, p.1 ≠ I) ∧ J (i + 1) m₂ news₂) →
        ∃ m, m < k ∧ ∃ i h' tk m' news', s₃ = { s with heap := h', toks := tk } ∧ i + m = items.size ∧ h'.IsTupleIter I t i ∧ Fr h₀ env.locals h' m' ∧ News h₀ env.locals h' news' ∧ (∀ p ∈ news', p.1 ≠ I) ∧ J i m' news' := by
      rintro ⟨h₄, tk₄, m₂, news₂, rfl, F₄, N₄, hn₄, hJ₄⟩
      refine ⟨k - 1, by omega, i + 1, h₄, tk₄, m₂, news₂, rfl, by omega, ?_, F₄, fun p hp => N₄ p (List.mem_append_left _ hp), hn₄, hJ₄⟩
      exact ⟨oi, (N₄ _ (List.mem_append_right _ (List.mem_singleton.mpr rfl))).1, hoc⟩
    cases f with
    | ret v => exact h₃
    | brk => exact h₃
    | cont => exact again h₃
    | next => exact again h₃
  · have hin : i = items.size := by omega
    subst hin
    refine W.done _ _ _ ⟨hit', hT _ _ _ _ hJ F' N'⟩ fun h₁ tk₁ hk₁ => ?_
    obtain ⟨F₁, N₁⟩ := move h₁ hk₁
    exact fin m' news' h₁ tk₁ hJ F₁ N₁

/-- what the eval of the source leaves behind -/
def EvTo (h₀ : Heap) (L : Addr) (s : Shared) (J : Addr → Array Value → Nat → (Str → Option Value) → List (Addr × Obj) → Prop) (x : Value) (s₁ : Shared) : Prop :=
  ∃ t items h₁ tk₁ m₁ news₁, x = .ref t ∧ s₁ = { s with heap := h₁, toks := tk₁ } ∧ Fr h₀ L h₁ m₁ ∧ News h₀ L h₁ news₁ ∧ J t items 0 m₁ news₁
/-- a for over a tuple, with an else -/
theorem For_else {iter : Expr} {pos : Pos}
    (hh : A.handled = none)
    (J : Addr → Array Value → Nat → (Str → Option Value) → List (Addr × Obj) → Prop)
    (hev : wpAny (model prog w) A (eval iter env) (EvTo h₀ env.locals s J) E s)
    (hT : ∀ t items i m₁ news₁ h₁, J t items i m₁ news₁ → Fr h₀ env.locals h₁ m₁ → News h₀ env.locals h₁ news₁ → h₁.IsTuple t items)
    (step : ∀ t items i v m₁ news₁ h₁ tk₁ I oi, items[i]? = some v → J t items i m₁ news₁ → Fr h₀ env.locals h₁ m₁ → News h₀ env.locals h₁ (news₁ ++ [(I, oi)]) → (∀ p ∈ news₁, p.1 ≠ I) →
      wpAny (model prog w) A (assign target env v) (fun _ s₂ => wpAny (model prog w) A (execs body env) (EStep h₀ env.locals I oi (J t items (i + 1)) s Q) E s₂) E { s with heap := h₁, toks := tk₁ })
    (fin : ∀ t items m₁ news₁ h₁ tk₁, J t items items.size m₁ news₁ → Fr h₀ env.locals h₁ m₁ → News h₀ env.locals h₁ news₁ → wpAny (model prog w) A (execs orelse env) Q E { s with heap := h₁, toks := tk₁ })
    (hs : ∀ x, foldedSetIterable iter env x = pure x := by intro _; rfl)
    (hE : PassesOwn (model prog w) A env E := by passes_own) :
    wpAny (model prog w) A (exec (.For target iter body orelse pos) env) Q E s := by
  refine wpAny_For (wpAny_mono hev (fun x s₁ h₁ => ?_) fun _ _ e => e) hs
  obtain ⟨t, items, hp, tk₁, m₁, news₁, rfl, rfl, F, N, hJ⟩ := h₁
  have ht := hT _ _ _ _ _ _ hJ F N
  refine wpAny_pyIter_tuple ht ?_
  have hLs : env.locals < hp.objs.size := F.ns.lt
  have htl : t < hp.objs.size := by obtain ⟨o, e, _⟩ := ht; exact Heap.lt_size e
  refine codeAny_for_else (h₀ := h₀) (J := J t items) (items := items) (t := t) hh (Nat.ne_of_gt hLs) (Heap.get?_none_of_le (Nat.le_of_lt (Nat.lt_of_le_of_lt F.above hLs))) (Nat.ne_of_lt htl) (hT t items)
    ⟨_, Heap.get?_push_size _ rfl, rfl, rfl⟩ (F.push _) (fun p hp => ⟨Heap.get?_push_of_some _ (N p hp).1, (N p hp).2⟩) (fun p hp => Nat.ne_of_lt (Heap.lt_size (N p hp).1)) hJ ?_ ?_
  · intro i v m₁ news₁ h₁ tk₂ oi hv hJ F N hn
    exact wpAny_mono (step t items i v m₁ news₁ h₁ tk₂ _ oi hv hJ F N hn) (fun _ s₂ h₂ => wpAny_mono h₂ (fun f s₃ h₃ => by cases f <;> exact h₃) fun _ _ e => hE _ _ e) fun _ _ e => hE _ _ e
  · intro m₁ news₁ h₁ tk₂ hJ F N
    exact wpAny_mono (fin t items m₁ news₁ h₁ tk₂ hJ F N) (fun _ _ e => e) fun _ _ e => hE _ _ e
end
end Mine

-- L1
namespace Mine
theorem topOff_L1 : True := by
  w_top off
  trivial
end Mine
namespace Mine
open PySem PySem.W PyProof.Rows PySem.Calls PySem.Spec
section
variable {prog : Program} {w : World} {A : Around} {E : Value → Shared → Prop} {s : Shared} {env : Env} {h₀ : Heap} {body : List Stmt} {Q : Flow → Shared → Prop}

/-- what a turn over enumerate leaves behind -/
def NStep (h₀ : Heap) (L e it : Addr) (oe oi : Obj) (Jn : (Str → Option Value) → List (Addr × Obj) → Prop) (s : Shared) (Q : Flow → Shared → Prop) (f : Flow) (s₃ : Shared) : Prop :=
  match f with
  | .next | .cont => ∃ h' tk m₂ news₂, s₃ = { s with heap := h', toks := tk } ∧ Fr h₀ L h' m₂ ∧ News h₀ L h' (news₂ ++ [(e, oe), (it, oi)]) ∧ (∀ p ∈ news₂, p.1 ≠ e ∧ p.1 ≠ it) ∧ Jn m₂ news₂
  | .brk => Q .next s₃
  | .ret v => Q (.ret v) s₃

theorem codeAny_for_enum {R : Result → Shared → Prop} {e it t : Addr} {elts : List Expr} {kk : Nat} {pos : Pos} {items : Array Value} {m : Str → Option Value} {news : List (Addr × Obj)}
    (hh : A.handled = none) (heL : e ≠ env.locals) (hiL : it ≠ env.locals) (he0 : h₀.get? e = none) (hi0 : h₀.get? it = none) (hei : e ≠ it) (hte : t ≠ e) (hti : t ≠ it)
    (J : Nat → (Str → Option Value) → List (Addr × Obj) → Prop)
    (hT : ∀ h, Kp h₀ h → h.IsTuple t items)
    (hen : IsEnum s.heap e it 0 .none) (hit : s.heap.IsTupleIter it t 0) (F : Fr h₀ env.locals s.heap m) (N : News h₀ env.locals s.heap news) (hn : ∀ p ∈ news, p.1 ≠ e ∧ p.1 ≠ it) (h0 : J 0 m news)
    (step : ∀ i x T tk m₁ news₁ h₁ tk₁ oe oi, items[i]? = some x → h₁.IsTuple T #[.int (i : Nat) tk, x] → J i m₁ news₁ → Fr h₀ env.locals h₁ m₁ → News h₀ env.locals h₁ (news₁ ++ [(e, oe), (it, oi)]) → (∀ p ∈ news₁, p.1 ≠ e ∧ p.1 ≠ it) →
      wpAny (model prog w) A (assign (.Tuple elts kk pos) env (.ref T)) (fun _ s₂ => wpAny (model prog w) A (execs body env) (NStep h₀ env.locals e it oe oi (J (i + 1)) s (fun f s' => R (.ok f) s')) (notedBy (model prog w) A env fun e s' => R (.error e) s') s₂)
        (notedBy (model prog w) A env fun e s' => R (.error e) s') { s with heap := h₁, toks := tk₁ })
    (fin : ∀ m₁ news₁ h₁ tk₁, J items.size m₁ news₁ → Fr h₀ env.locals h₁ m₁ → News h₀ env.locals h₁ news₁ → R (.ok .next) { s with heap := h₁, toks := tk₁ }) :
    codeAny (model prog w) A (.forLoop (.Tuple elts kk pos) (.ref e) body [] env) R s := by
  have W := KTurns.ofWalksU (elts := elts) (k := kk) (pos := pos) (WalksT.enumerateD (draws_tup (prog := prog) (w := w) (A := A.in1) hh it t hti items) e hei (by simp; exact ⟨hei, Ne.symm hte⟩) (List.mem_cons_self ..)).toU
  refine codeAny_forLoop_any
    (fun k s' => ∃ i h' tk m' news', s' = { s with heap := h', toks := tk } ∧ i + k = items.size ∧ ((∃ old, IsEnum h' e it i old) ∧ h'.IsTupleIter it t i ∧ h'.IsTuple t items) ∧ Fr h₀ env.locals h' m' ∧ News h₀ env.locals h' news' ∧ (∀ p ∈ news', p.1 ≠ e ∧ p.1 ≠ it) ∧ J i m' news')
    ?_ items.size ⟨0, s.heap, s.toks, m, news, rfl, Nat.zero_add _, ⟨⟨_, hen⟩, hit, hT _ F.keep⟩, F, N, hn, h0⟩
  rintro k s' ⟨i, h', tk, m', news', rfl, hik, hst, F', N', hn', hJ⟩
  have move : ∀ h₁ : Heap, (∀ b o, b ∉ [e, it] → h'.get? b = some o → h₁.get? b = some o) → Fr h₀ env.locals h₁ m' ∧ News h₀ env.locals h₁ news' := fun h₁ hk =>
    ⟨⟨F'.ns.at' fun o x => hk _ o (fun hm => by
        simp only [List.mem_cons, List.not_mem_nil, or_false] at hm
        exact hm.elim (fun q => heL q.symm) fun q => hiL q.symm) x,
      fun b o x => hk b o (fun hm => by
        simp only [List.mem_cons, List.not_mem_nil, or_false] at hm
        rcases hm with rfl | rfl
        · rw [he0] at x; cases x
        · rw [hi0] at x; cases x) (F'.keep b o x), F'.above⟩,
      fun p hp => ⟨hk _ _ (fun hm => by
        simp only [List.mem_cons, List.not_mem_nil, or_false] at hm
        exact hm.elim (hn' p hp).1 (hn' p hp).2) (N' p hp).1, (N' p hp).2⟩⟩
  by_cases hlt : i < items.size
  · refine W.item i _ _ _ hlt hst fun v h₁ tk₁ hMd hk₁ => ?_
    refine W.go i v _ _ _ hMd fun h₂ hP hst₂ hk₂ => ?_
    obtain ⟨F₁, N₁⟩ := move h₂ fun b o hb x => hk₂ b o hb (hk₁ b o hb x)
    obtain ⟨T, vals, rfl, ⟨tk2, x, hx, rfl⟩, hTT⟩ := hP
    obtain ⟨⟨old, heE⟩, ⟨oi, hoi, hoc⟩, htt⟩ := hst₂
    obtain ⟨oe, hoe, hoE⟩ : ∃ oe : Obj, h₂.get? e = some oe ∧ ∀ h : Heap, h.get? e = some oe → IsEnum h e it ((i + 1 : Nat) : Int) old := ⟨_, heE, fun _ q => q⟩
    have NI : News h₀ env.locals h₂ (news' ++ [(e, oe), (it, oi)]) := fun p hp => by
      rcases List.mem_append.mp hp with hp | hp
      · exact N₁ p hp
      · rcases List.mem_cons.mp hp with rfl | hp
        · exact ⟨hoe, heL, he0⟩
        · rw [List.mem_singleton.mp hp]; exact ⟨hoi, hiL, hi0⟩
    refine wpAny_mono (step i x T tk2 m' news' h₂ tk₁ oe oi hx hTT hJ F₁ NI hn') (fun _ s₂ h₂ => wpAny_mono h₂ (fun f s₃ h₃ => ?_) fun _ _ e => e) fun _ _ e => e
    have again : (∃ h' tk m₂ news₂, s₃ = { s with heap := h', toks := tk } ∧ Fr h₀ env.locals h' m₂ ∧ News h₀ env.locals h' (news₂ ++ [(e, oe), (it, oi)]) ∧ (∀ p ∈ news₂, p.1 ≠ e ∧ p.1 ≠ it) ∧ J (i + 1) m₂ news₂) →
        ∃ m, m < k ∧ ∃ i h' tk m' news', s₃ = { s with heap := h', toks := tk } ∧ i + m = items.size ∧ ((∃ old, IsEnum h' e it i old) ∧ h'.IsTupleIter it t i ∧ h'.IsTuple t items) ∧ Fr h₀ env.locals h' m' ∧ News h₀ env.locals h' news' ∧ (∀ p ∈ news', p.1 ≠ e ∧ p.1 ≠ it) ∧ J i m' news' := by
      rintro ⟨h₄, tk₄, m₂, news₂, rfl, F₄, N₄, hn₄, hJ₄⟩
      refine ⟨k - 1, by omega, i + 1, h₄, tk₄, m₂, news₂, rfl, by omega, ⟨⟨old, ?_⟩, ?_, hT _ F₄.keep⟩, F₄, fun p hp => N₄ p (List.mem_append_left _ hp), hn₄, hJ₄⟩
      · exact hoE _ (N₄ _ (List.mem_append_right _ (List.mem_cons_self ..))).1
      · exact ⟨oi, (N₄ _ (List.mem_append_right _ (List.mem_cons_of_mem _ (List.mem_singleton.mpr rfl)))).1, hoc⟩
    cases f with
    | ret v => exact h₃
    | brk => exact h₃
    | cont => exact again h₃
    | next => exact again h₃
  · have hin : i = items.size := by omega
    subst hin
    refine W.done _ _ _ hst fun h₁ tk₁ hk₁ => wpAny_execs_nil ?_
    obtain ⟨F₁, N₁⟩ := move h₁ hk₁
    exact fin m' news' h₁ tk₁ hJ F₁ N₁

/-- a for over enumerate(an old tuple) -/
theorem For_enum {elts : List Expr} {kk : Nat} {pt pos : Pos} {iter : Expr} {t : Addr} {items : Array Value} {m : Str → Option Value} {news : List (Addr × Obj)}
    (hh : A.handled = none)
    (J : Nat → (Str → Option Value) → List (Addr × Obj) → Prop) (F : Fr h₀ env.locals s.heap m) (N : News h₀ env.locals s.heap news) (h0 : J 0 m news)
    (hT : ∀ h, Kp h₀ h → h.IsTuple t items)
    (hev : ∀ Q : Value → Shared → Prop, (∀ tk, wpAny (model prog w) A (call (.type "enumerate") [.ref t]) Q E { s with toks := tk }) → wpAny (model prog w) A (eval iter env) Q E s)
    (step : ∀ e it i x T tk m₁ news₁ h₁ tk₁ oe oi, items[i]? = some x → h₁.IsTuple T #[.int (i : Nat) tk, x] → J i m₁ news₁ → Fr h₀ env.locals h₁ m₁ → News h₀ env.locals h₁ (news₁ ++ [(e, oe), (it, oi)]) → (∀ p ∈ news₁, p.1 ≠ e ∧ p.1 ≠ it) →
      wpAny (model prog w) A (assign (.Tuple elts kk pt) env (.ref T)) (fun _ s₂ => wpAny (model prog w) A (execs body env) (NStep h₀ env.locals e it oe oi (J (i + 1)) s Q) E s₂) E { s with heap := h₁, toks := tk₁ })
    (fin : ∀ m₁ news₁ h₁ tk₁, J items.size m₁ news₁ → Fr h₀ env.locals h₁ m₁ → News h₀ env.locals h₁ news₁ → Q .next { s with heap := h₁, toks := tk₁ })
    (hs : ∀ x, foldedSetIterable iter env x = pure x := by intro _; rfl)
    (hE : PassesOwn (model prog w) A env E := by passes_own) :
    wpAny (model prog w) A (exec (.For (.Tuple elts kk pt) iter body [] pos) env) Q E s := by
  refine wpAny_For (hev _ fun tk => ?_) hs
  have ht : s.heap.IsTuple t items := hT _ F.keep
  refine call_enum_tup (s := { s with toks := tk }) ht fun h' hen hit hsz hk => ?_
  refine wpAny_pyIter_enum hen ?_
  have hLs : env.locals < s.heap.objs.size := F.ns.lt
  have htl : t < s.heap.objs.size := by obtain ⟨o, e, _⟩ := ht; exact Heap.lt_size e
  have h0s : h₀.objs.size ≤ s.heap.objs.size := Nat.le_trans F.above (Nat.le_of_lt hLs)
  refine codeAny_for_enum (h₀ := h₀) (J := J) (items := items) (t := t) hh (Nat.ne_of_gt (Nat.lt_succ_of_lt hLs)) (Nat.ne_of_gt hLs) (Heap.get?_none_of_le (Nat.le_succ_of_le h0s)) (Heap.get?_none_of_le h0s) (Nat.succ_ne_self _)
    (Nat.ne_of_lt (Nat.lt_succ_of_lt htl)) (Nat.ne_of_lt htl) hT hen hit (F.keeps hk) (N.grown hk) (fun p hp => ?_) h0 ?_ ?_
  · have := Heap.lt_size (N p hp).1
    exact ⟨Nat.ne_of_lt (Nat.lt_succ_of_lt this), Nat.ne_of_lt this⟩
  · intro i x T tk m₁ news₁ h₁ tk₁ oe oi hx hTT hJ F N hn
    exact wpAny_mono (step _ _ i x T tk m₁ news₁ h₁ tk₁ oe oi hx hTT hJ F N hn) (fun _ s₂ h₂ => wpAny_mono h₂ (fun f s₃ h₃ => by cases f <;> exact h₃) fun _ _ e => hE _ _ e) fun _ _ e => hE _ _ e
  · intro m₁ news₁ h₁ tk₁ hJ F N
    exact fin m₁ news₁ h₁ tk₁ hJ F N
end
end Mine

-- C14
namespace Mine
theorem topOff_C14 : True := by
  w_top off
  trivial
end Mine
namespace Mine
open PySem PySem.W PyProof.Rows PySem.Calls PySem.Spec
/-- what a sign of rights is worth -/
def t1 (r : List Nat) (k : Int) : Int := Txt.find (Str.ofString "-" ++ Txt.item (Str.ofString "-rw-rw-rw-") k) (tx [r.getD k.toNat 0]) * 2 ^ (9 - k).toNat
def pl2 (r : List Nat) (k : Int) : Int := Txt.find (if k < 9 then Str.ofString "-xSs" else Str.ofString "-xTt") (tx [r.getD k.toNat 0])
def t2 (r : List Nat) (k : Int) : Int := (pl2 r k).fmod 2 * 2 ^ (9 - k).toNat + (pl2 r k).fdiv 2 * 2 ^ (12 - k.fdiv 3).toNat
def ks1 : List Int := [1, 2, 4, 5, 7, 8]
def ks2 : List Int := [3, 6, 9]
/-- the mode that a row of ten signs is read back as -/
def bck (r : List Nat) : Int := Txt.find (Str.ofString "?pc?d?b?-?l?s") (tx [r.getD 0 0]) * 4096 + (ks1.map (t1 r)).sum + (ks2.map (t2 r)).sum
def bkJ (ks : List Int) (f : Int → Int) (r : List Nat) (n0 : Int) (t : Tok) (D : Addr) (items : Array Value) (i : Nat) (m : Str → Option Value) (news : List (Addr × Obj)) : Prop :=
  ∃ tk x, news = [(D, { cls := .type "tuple", data := .seq items })] ∧ IntsAre items.toList ks ∧ m (Str.ofString "row") = some (.str (tx r) t) ∧
    m (Str.ofString "number") = some (.int x tk) ∧ x = n0 + ((ks.take i).map f).sum
theorem bk_step {ks : List Int} {f : Int → Int} {i : Nat} {k : Int} {n0 x : Int} (hk : ks[i]? = some k) (hx : x = n0 + ((ks.take i).map f).sum) : x + f k = n0 + ((ks.take (i + 1)).map f).sum := by
  rw [hx, List.take_add_one, hk]
  simp
  omega
theorem imo {a b : Int} (h : 1 ≤ b ∧ b ≤ 4096) : IntMulOk a b := IntMulOk.of_right (intBits_le_64 (by omega) (by omega))
theorem bk_map {r : List Nat} {t tk1 : Tok} {m : Str → Option Value} {j : Int} (e1 : m (Str.ofString "row") = some (.str (tx r) t)) (e2 : m (Str.ofString "number") = some (.int j tk1)) :
    m = fun y => if y = Str.ofString "number" then some (.int j tk1) else if y = Str.ofString "row" then some (.str (tx r) t) else m y := by
  funext y
  repeat (split; · next h => subst h; assumption)
  rfl
theorem ints_item {vs : List Value} {ns : List Int} (h : IntsAre vs ns) : ∀ {i : Nat} {v : Value}, vs[i]? = some v → ∃ n t, v = .int n t ∧ ns[i]? = some n := by
  induction h with
  | nil => intro i v hv; simp at hv
  | cons n t _ ih =>
    intro i v hv
    cases i with
    | zero => simp at hv; exact ⟨n, t, hv.symm, rfl⟩
    | succ i => exact ih (by simpa using hv)
theorem ints_len {vs : List Value} {ns : List Int} (h : IntsAre vs ns) : vs.length = ns.length := by
  induction h with
  | nil => rfl
  | cons n t _ ih => simp [ih]
local macro_rules | `(tactic| walk_at "none such") => `(tactic| skip)
local macro_rules | `(tactic| walk_at "none such") => `(tactic| skip)
local macro_rules | `(tactic| walk_at "none such") => `(tactic| skip)
local macro_rules | `(tactic| walk_at "none such") => `(tactic| skip)
local macro_rules | `(tactic| walk_at "none such") => `(tactic| skip)
local macro_rules | `(tactic| walk_at "none such") => `(tactic| skip)
local macro_rules | `(tactic| walk_at "none such") => `(tactic| skip)
local macro_rules | `(tactic| walk_at "none such") => `(tactic| skip)
local macro_rules | `(tactic| walk_at "none such") => `(tactic| skip)
local macro_rules | `(tactic| walk_at "none such") => `(tactic| skip)
local macro_rules | `(tactic| walk_at "none such") => `(tactic| skip)
local macro_rules | `(tactic| walk_at "eval ListComp") => `(tactic| ((with_reducible refine' comp_eval ?hclos ?hcell ?hkind ?hnames ?hs ?_); (case hclos => with_unfolding_all rfl); (case hcell => decide); (case hkind => with_unfolding_all rfl); (case hnames => decide); (case hs => intro _; with_unfolding_all rfl)))
local macro_rules | `(tactic| walk_at "call ref") => `(tactic| (refine wpAny_call ?_))
local macro_rules | `(tactic| walk_at "binaryOp Mod int int") => `(tactic| (refine PyProof.Rows.mod_int (by decide) ?_))
local macro_rules | `(tactic| walk_at "binaryOp FloorDiv int int") => `(tactic| (refine PyProof.Rows.floordiv_int (by decide) ?_))
local macro_rules | `(tactic| walk_at "binaryOp Mult int int") => `(tactic| (refine PyProof.Rows.mul_int ?_ (by first | exact imo (by assumption) | exact imo (by decide))))
local macro_rules | `(tactic| walk_at "binaryOp Pow int int") => `(tactic| (refine PyProof.Rows.pow_int_small (by omega) (by omega) (by decide) ?_))
local macro_rules | `(tactic| walk_at "exec For Name Tuple cons nil") => `(tactic| (refine Hold.stop ?_))
local macro_rules | `(tactic| walk_at "execs nil") => `(tactic| (refine wpAny_execs_nil ?_))

theorem c_back {w : World} {p : Program} {loose : List Str} {mean : ExcName → Option Value} {mg mb : Str → Option Value} {A : Around} {s : Shared} {R : Result → Shared → Prop} {r : List Nat} {t : Tok} (hr : r.length = 10)
    (X : (KK w.params).In s.heap) (T : Top p loose mean mg mb s.heap) (hA : Rm A 2)
    (ret : ∀ t h' tk', Kp s.heap h' → R (.ok (.ret (.int (bck r) t))) { s with heap := h', toks := tk' }) :
    codeAny (model PG w) A (.call (.ref 157) ⟨[.str (tx r) t], []⟩) R s := by
  have hrl : (tx r).length = 10 := by rw [tx_len, hr]
  have hit : ∀ k : Int, 0 ≤ k → k ≤ 9 → Txt.item (tx r) k = tx [r.getD k.toNat 0] := fun k h1 h2 => by
    have := tx_item (r := r) (i := k.toNat) (by omega)
    rwa [Int.toNat_of_nonneg h1] at this
  refine fill ?_
  k_fill
  intro _
  have hA0 := hA
  obtain ⟨hh, hdp, hun⟩ := hA
  refine' enter (binds := [(Str.ofString "row", .str (tx r) t)]) ?k3 ?k5 ?k8 ?k6 ?k7 ?k9 ?kB ?_ ?c2 ?c3 ?c4 ?c5
  case k3 => exact X
  case k5 => exact T
  case k6 => k_is
  case k7 => k_is
  case k8 => (simp only [recursionLimit]; omega)
  case k9 => exact BindsTo.of_eq rfl
  case kB => exact locs rfl
  case c2 => exact rfl
  case c3 => exact rfl
  case c4 => exact rfl
  case c5 => decide
  intro L h₁ F N
  try dsimp only
  try k_fold

  k_steps
  · omega
  refine Hold.go ?_
  rename Fr _ _ _ _ => F1
  rename News _ _ _ _ => N1
  generalize hn0 : Txt.find (Str.ofString "?pc?d?b?-?l?s") _ * 4096 = n0 at F1
  rw [hit 0 (by decide) (by decide)] at hn0
  refine For_else (h₀ := s.heap) hh (bkJ ks1 (t1 r) r n0 t) ?_ ?_ ?_ ?_
  · k_steps
    rename Fr _ _ _ _ => F2
    rename News _ _ _ _ => N2
    refine ⟨_, _, _, _, _, _, rfl, rfl, F2, N2, _, _, rfl, ?_, rfl, rfl, by simp⟩
    exact .cons _ _ (.cons _ _ (.cons _ _ (.cons _ _ (.cons _ _ (.cons _ _ .nil)))))
  · rintro D items i m₁ news₁ h₁ ⟨tk, x, rfl, _⟩ F N
    exact News.isTup N (.head _)
  · rintro D items i v m₁ news₁ h₂ tk₂ I oi hv ⟨tk, x, rfl, hI, e1, e2, e3⟩ F2 N2 hn2
    rw [bk_map e1 e2] at F2
    obtain ⟨k, tkk, rfl, hk⟩ := ints_item hI (by simpa using hv)
    have hkm : k ∈ ks1 := List.mem_of_getElem? hk
    have hk9 : 0 ≤ k ∧ k ≤ 9 := by
      simp [ks1] at hkm; omega
    have hpw : (1 : Int) ≤ 2 ^ (9 - k).toNat ∧ (2 : Int) ^ (9 - k).toNat ≤ 4096 := by
      revert hkm
      simp [ks1]
      rintro (rfl | rfl | rfl | rfl | rfl | rfl) <;> decide
    have hitk := hit k hk9.1 hk9.2
    have hstep := bk_step (f := t1 r) hk e3
    clear hit hv hk hn0 N1 F1 hkm e3
    try dsimp only
    try k_fold
    k_steps
    rename Fr _ _ _ _ => F3
    rename News _ _ _ _ => N3
    rw [hitk] at F3
    exact ⟨_, _, _, _, rfl, F3, N3, hn2, _, _, rfl, hI, rfl, rfl, hstep⟩
  · rintro D items m₁ news₁ h₂ tk₂ ⟨tk, x, rfl, hI, e1, e2, e3⟩ F2 N2
    rw [bk_map e1 e2] at F2
    have N2 : News s.heap L h₂ [] := fun p hp => nomatch hp
    have hx : x = n0 + (ks1.map (t1 r)).sum := by
      have hl : items.size = ks1.length := by have := ints_len hI; simpa using this
      rw [e3, hl, List.take_length]
    try dsimp only
    try k_fold
    k_steps
    refine Hold.go ?_
    refine For_else (h₀ := s.heap) hh (bkJ ks2 (t2 r) r x t) ?_ ?_ ?_ ?_
    · k_steps
      rename Fr _ _ _ _ => F2
      rename News _ _ _ _ => N2
      refine ⟨_, _, _, _, _, _, rfl, rfl, F2, fun p hp => N2 p (List.mem_append_left [_] hp), _, _, rfl, ?_, rfl, rfl, by simp⟩
      exact .cons _ _ (.cons _ _ (.cons _ _ .nil))
    · rintro D items i m₁ news₁ h₁ ⟨tk, x, rfl, _⟩ F N
      exact News.isTup N (.head _)
    · rintro D items i v m₁ news₁ h₂ tk₂ I oi hv ⟨tk, x2, rfl, hI, e1, e2, e4⟩ F2 N2 hn2
      rw [bk_map e1 e2] at F2
      obtain ⟨k, tkk, rfl, hk⟩ := ints_item hI (by simpa using hv)
      have hkm : k ∈ ks2 := List.mem_of_getElem? hk
      have hk9 : 0 ≤ k ∧ k ≤ 9 := by
        simp [ks2] at hkm; omega
      have hpw : (1 : Int) ≤ 2 ^ (9 - k).toNat ∧ (2 : Int) ^ (9 - k).toNat ≤ 4096 := by
        revert hkm
        simp [ks2]
        rintro (rfl | rfl | rfl) <;> decide
      have hitk := hit k hk9.1 hk9.2
      have hk3 : k.fdiv 3 ≤ 3 ∧ 1 ≤ k.fdiv 3 := by
        revert hkm
        simp [ks2]
        rintro (rfl | rfl | rfl) <;> decide
      have hpv : (1 : Int) ≤ 2 ^ (12 - k.fdiv 3).toNat ∧ (2 : Int) ^ (12 - k.fdiv 3).toNat ≤ 4096 := by
        revert hkm
        simp [ks2]
        rintro (rfl | rfl | rfl) <;> decide
      have hstep := bk_step (f := t2 r) hk e4
      clear hit hv hk hn0 N1 F1 hkm hx e3 e4
      try dsimp only
      try k_fold
      k_steps
      · rename Fr _ _ _ _ => F3
        rename News _ _ _ _ => N3
        rename (k < 9) => hlt
        exact ⟨_, _, _, _, rfl, F3, N3, hn2, _, _, rfl, hI, rfl, rfl, by rw [← hstep]; unfold t2 pl2; rw [if_pos hlt, ← hitk]⟩
      · rename Fr _ _ _ _ => F3
        rename News _ _ _ _ => N3
        have hlt : ¬ k < 9 := by omega
        exact ⟨_, _, _, _, rfl, F3, N3, hn2, _, _, rfl, hI, rfl, rfl, by rw [← hstep]; unfold t2 pl2; rw [if_neg hlt, ← hitk]⟩
    · rintro D items m₁ news₁ h₂ tk₂ ⟨tk, x2, rfl, hI, e1, e2, e4⟩ F2 N2
      rw [bk_map e1 e2] at F2
      have N2 : News s.heap L h₂ [] := fun p hp => nomatch hp
      have hx2 : x2 = bck r := by
        have hl : items.size = ks2.length := by have := ints_len hI; simpa using this
        rw [e4, hl, List.take_length, hx, ← hn0]
        rfl
      clear hit
      try dsimp only
      try k_fold
      k_steps
      rename Fr _ _ _ _ => F9
      exact finI (s := s) ret F9.keep hx2
end Mine

-- C15
namespace Mine
theorem topOff_C15 : True := by
  w_top off
  trivial
end Mine
namespace Mine
open PySem PySem.W PyProof.Rows PySem.Calls PySem.Spec
/-- the table of the signs: for each place the pairs of bits and sign, with their addresses -/
def tb : List (Nat × List (Nat × Int × Nat × Nat × Nat)) := [(111, [(104, 40960, 575, 108, 603), (105, 49152, 577, 115, 604), (106, 32768, 571, 45, 605), (107, 24576, 569, 98, 606), (108, 16384, 565, 100, 607), (109, 8192, 567, 99, 608), (110, 4096, 573, 112, 609)]),
  (113, [(112, 256, 585, 114, 610)]),
  (115, [(114, 128, 587, 119, 611)]),
  (119, [(116, 2112, 612, 115, 613), (117, 2048, 579, 83, 614), (118, 64, 589, 120, 615)]),
  (121, [(120, 32, 591, 114, 616)]),
  (123, [(122, 16, 593, 119, 617)]),
  (127, [(124, 1032, 618, 115, 619), (125, 1024, 581, 83, 620), (126, 8, 595, 120, 621)]),
  (129, [(128, 4, 597, 114, 622)]),
  (131, [(130, 2, 599, 119, 623)]),
  (135, [(132, 513, 624, 116, 625), (133, 512, 583, 84, 626), (134, 1, 601, 120, 627)])]
theorem tx_c45 : Str.ofString "-" = tx [45] := by decide +kernel
theorem tx_c83 : Str.ofString "S" = tx [83] := by decide +kernel
theorem tx_c84 : Str.ofString "T" = tx [84] := by decide +kernel
theorem tx_c98 : Str.ofString "b" = tx [98] := by decide +kernel
theorem tx_c99 : Str.ofString "c" = tx [99] := by decide +kernel
theorem tx_c100 : Str.ofString "d" = tx [100] := by decide +kernel
theorem tx_c108 : Str.ofString "l" = tx [108] := by decide +kernel
theorem tx_c112 : Str.ofString "p" = tx [112] := by decide +kernel
theorem tx_c114 : Str.ofString "r" = tx [114] := by decide +kernel
theorem tx_c115 : Str.ofString "s" = tx [115] := by decide +kernel
theorem tx_c116 : Str.ofString "t" = tx [116] := by decide +kernel
theorem tx_c119 : Str.ofString "w" = tx [119] := by decide +kernel
theorem tx_c120 : Str.ofString "x" = tx [120] := by decide +kernel
theorem prO {h : Heap} {a : Addr} {b : Int} {t u c : Nat} {x : Str} (e : h.get? a = some { cls := .type "tuple", data := .seq #[.int b t, .str x u] }) (hx : x = tx [c]) : IsTup h a #[.int b t, .str (tx [c]) u] := by
  subst hx; exact ⟨_, e, rfl, _, rfl⟩
theorem tb_top {w : World} {h : Heap} (X : (KK w.params).In h) : h.IsTuple 136 (tb.map fun r => Value.ref r.1).toArray := ⟨_, X 136 _ rfl, rfl, _, rfl⟩
theorem tb_row {w : World} {h : Heap} (X : (KK w.params).In h) : ∀ r ∈ tb, h.IsTuple r.1 (r.2.map fun p => Value.ref p.1).toArray := by
  intro r hr
  simp only [tb, List.mem_cons, List.not_mem_nil, or_false] at hr
  rcases hr with rfl | rfl | rfl | rfl | rfl | rfl | rfl | rfl | rfl | rfl
  · exact ⟨_, X 111 _ rfl, rfl, _, rfl⟩
  · exact ⟨_, X 113 _ rfl, rfl, _, rfl⟩
  · exact ⟨_, X 115 _ rfl, rfl, _, rfl⟩
  · exact ⟨_, X 119 _ rfl, rfl, _, rfl⟩
  · exact ⟨_, X 121 _ rfl, rfl, _, rfl⟩
  · exact ⟨_, X 123 _ rfl, rfl, _, rfl⟩
  · exact ⟨_, X 127 _ rfl, rfl, _, rfl⟩
  · exact ⟨_, X 129 _ rfl, rfl, _, rfl⟩
  · exact ⟨_, X 131 _ rfl, rfl, _, rfl⟩
  · exact ⟨_, X 135 _ rfl, rfl, _, rfl⟩
theorem tb_pair {w : World} {h : Heap} (X : (KK w.params).In h) : ∀ r ∈ tb, ∀ p ∈ r.2, IsTup h p.1 #[.int p.2.1 p.2.2.1, .str (tx [p.2.2.2.1]) p.2.2.2.2] := by
  intro r hr p hp
  simp only [tb, List.mem_cons, List.not_mem_nil, or_false] at hr
  rcases hr with rfl | rfl | rfl | rfl | rfl | rfl | rfl | rfl | rfl | rfl
  · simp only [List.mem_cons, List.not_mem_nil, or_false] at hp
    rcases hp with rfl | rfl | rfl | rfl | rfl | rfl | rfl
    · exact prO (X 104 _ rfl) tx_c108
    · exact prO (X 105 _ rfl) tx_c115
    · exact prO (X 106 _ rfl) tx_c45
    · exact prO (X 107 _ rfl) tx_c98
    · exact prO (X 108 _ rfl) tx_c100
    · exact prO (X 109 _ rfl) tx_c99
    · exact prO (X 110 _ rfl) tx_c112
  · simp only [List.mem_cons, List.not_mem_nil, or_false] at hp
    rcases hp with rfl
    · exact prO (X 112 _ rfl) tx_c114
  · simp only [List.mem_cons, List.not_mem_nil, or_false] at hp
    rcases hp with rfl
    · exact prO (X 114 _ rfl) tx_c119
  · simp only [List.mem_cons, List.not_mem_nil, or_false] at hp
    rcases hp with rfl | rfl | rfl
    · exact prO (X 116 _ rfl) tx_c115
    · exact prO (X 117 _ rfl) tx_c83
    · exact prO (X 118 _ rfl) tx_c120
  · simp only [List.mem_cons, List.not_mem_nil, or_false] at hp
    rcases hp with rfl
    · exact prO (X 120 _ rfl) tx_c114
  · simp only [List.mem_cons, List.not_mem_nil, or_false] at hp
    rcases hp with rfl
    · exact prO (X 122 _ rfl) tx_c119
  · simp only [List.mem_cons, List.not_mem_nil, or_false] at hp
    rcases hp with rfl | rfl | rfl
    · exact prO (X 124 _ rfl) tx_c115
    · exact prO (X 125 _ rfl) tx_c83
    · exact prO (X 126 _ rfl) tx_c120
  · simp only [List.mem_cons, List.not_mem_nil, or_false] at hp
    rcases hp with rfl
    · exact prO (X 128 _ rfl) tx_c114
  · simp only [List.mem_cons, List.not_mem_nil, or_false] at hp
    rcases hp with rfl
    · exact prO (X 130 _ rfl) tx_c119
  · simp only [List.mem_cons, List.not_mem_nil, or_false] at hp
    rcases hp with rfl | rfl | rfl
    · exact prO (X 132 _ rfl) tx_c116
    · exact prO (X 133 _ rfl) tx_c84
    · exact prO (X 134 _ rfl) tx_c120

theorem Rm.le' {A : Around} {n m : Nat} (h : Rm A n) (hm : m ≤ n) : Rm A m := ⟨h.1, Nat.le_trans h.2 (by omega), Nat.le_trans h.3 (by omega)⟩
/-- whether a pair of the table is the mode's -/
def hits (mode : Int) (i : Nat) (p : Nat × Int × Nat × Nat × Nat) : Bool := if i = 0 then Builtin.bitAnd mode 61440 == p.2.1 else Builtin.bitAnd mode p.2.1 == p.2.1
/-- the sign that filemode writes at a place -/
def fmS (mode : Int) (i : Nat) (r : List (Nat × Int × Nat × Nat × Nat)) : Nat := match r.find? (hits mode i) with | some p => p.2.2.2.1 | none => if i = 0 then 63 else 45
def fmL (mode : Int) : List Nat := tb.zipIdx.map fun y => fmS mode y.2 y.1.2
local macro_rules | `(tactic| walk_at "eval ListComp") => `(tactic| ((with_reducible refine' comp_eval ?hclos ?hcell ?hkind ?hnames ?hs ?_); (case hclos => with_unfolding_all rfl); (case hcell => decide); (case hkind => with_unfolding_all rfl); (case hnames => decide); (case hs => intro _; with_unfolding_all rfl)))
local macro_rules | `(tactic| walk_at "call ref") => `(tactic| (refine wpAny_call ?_))
local macro_rules | `(tactic| walk_at "binaryOp BitAnd int int") => `(tactic| (refine PyProof.Rows.and_int ?_))
local macro_rules | `(tactic| walk_at "assign Tuple") => `(tactic| ((rename Fr _ _ _ _ => lF); (rename News _ _ _ _ => lN); (rename IsTup _ _ _ => lT); (refine unpackN_ lF lN lT (by assumption) (by rfl) (by rfl) ?_); clear lF lN lT; intro _ _ _))
local macro_rules | `(tactic| walk_at "call type:enumerate") => `(tactic| (refine Hold.stop ?_))
local macro_rules | `(tactic| walk_at "exec If") => `(tactic| (refine If_hold ?_))
local macro_rules | `(tactic| walk_at "exec For Tuple Call cons nil") => `(tactic| (refine Hold.stop ?_))
local macro_rules | `(tactic| walk_at "exec For Tuple Name cons cons") => `(tactic| (refine Hold.stop ?_))

theorem c_ifmt {w : World} {p : Program} {loose : List Str} {mean : ExcName → Option Value} {mg mb : Str → Option Value} {A : Around} {s : Shared} {R : Result → Shared → Prop} {mode : Int} {t : Tok}
    (X : (KK w.params).In s.heap) (T : Top p loose mean mg mb s.heap) (hA : Rm A 1)
    (ret : ∀ t h' tk', Kp s.heap h' → R (.ok (.ret (.int (Builtin.bitAnd mode 61440) t))) { s with heap := h', toks := tk' }) :
    codeAny (model PG w) A (.call (.ref 103) ⟨[.int mode t], []⟩) R s := by
  refine fill ?_
  k_fill
  intro _
  have hA0 := hA
  obtain ⟨hh, hdp, hun⟩ := hA
  refine' enter (binds := [(Str.ofString "mode", .int mode t)]) ?k3 ?k5 ?k8 ?k6 ?k7 ?k9 ?kB ?_ ?c2 ?c3 ?c4 ?c5
  case k3 => exact X
  case k5 => exact T
  case k6 => k_is
  case k7 => k_is
  case k8 => (simp only [recursionLimit]; omega)
  case k9 => exact BindsTo.of_eq rfl
  case kB => exact locs rfl
  case c2 => exact rfl
  case c3 => exact rfl
  case c4 => exact rfl
  case c5 => decide
  intro L h₁ F N
  try dsimp only
  try k_fold

  k_steps
  rename Fr _ _ _ _ => F9
  exact ret _ _ _ F9.keep
def fmJ (mode : Int) (tm : Tok) (i : Nat) (m : Str → Option Value) (news : List (Addr × Obj)) : Prop :=
  ∃ D items k, news = [(D, listOf (List.toArray items) k)] ∧ StrsAre items (((tb.zipIdx.take i).map fun y => fmS mode y.2 y.1.2).map fun c => tx [c]) ∧
    m (Str.ofString "mode") = some (.int mode tm) ∧ m (Str.ofString "perm") = some (.ref D)
theorem zip_at {α : Type} (l : List α) (i : Nat) : l.zipIdx[i]? = l[i]?.map fun a => (a, i) := by simp
theorem fm_snoc {mode : Int} {items : List Value} {i c : Nat} {u : Tok} {r : Nat × List (Nat × Int × Nat × Nat × Nat)}
    (hS : StrsAre items (((tb.zipIdx.take i).map fun y => fmS mode y.2 y.1.2).map fun c => tx [c])) (hr : tb[i]? = some r) (hc : c = fmS mode i r.2) :
    StrsAre (items ++ [.str (tx [c]) u]) (((tb.zipIdx.take (i + 1)).map fun y => fmS mode y.2 y.1.2).map fun c => tx [c]) := by
  rw [List.take_add_one, zip_at, hr, List.map_append, List.map_append]
  subst hc
  exact StrsAre.append' hS (.cons _ _ .nil)
theorem fm_len {mode : Int} {items : List Value} {i : Nat} (hS : StrsAre items (((tb.zipIdx.take i).map fun y => fmS mode y.2 y.1.2).map fun c => tx [c])) : (List.toArray items).size ≤ sizeLine := by
  have h := hS.len_eq
  simp only [List.length_map, List.length_take, List.length_zipIdx] at h
  have h2 : tb.length = 10 := rfl
  rw [List.size_toArray, sizeLine_eq]
  omega
theorem fm_hit {mode : Int} {i j : Nat} {l : List (Nat × Int × Nat × Nat × Nat)} {p : Nat × Int × Nat × Nat × Nat} (hno : ∀ p ∈ l.take j, hits mode i p = false) (hp : l[j]? = some p) (hh : hits mode i p = true) : p.2.2.2.1 = fmS mode i l := by
  have : l.find? (hits mode i) = some p := by
    rw [List.find?_eq_some_iff_getElem]
    obtain ⟨hj, hg⟩ := List.getElem?_eq_some_iff.mp hp
    refine ⟨hh, j, hj, hg, fun q hq => ?_⟩
    have := hno l[q] (by rw [List.mem_take_iff_getElem]; exact ⟨q, by omega, rfl⟩)
    simp [this]
  simp [fmS, this]
theorem fm_miss {mode : Int} {i j : Nat} {l : List (Nat × Int × Nat × Nat × Nat)} {p : Nat × Int × Nat × Nat × Nat} (hno : ∀ p ∈ l.take j, hits mode i p = false) (hp : l[j]? = some p) (hh : hits mode i p = false) : ∀ p ∈ l.take (j + 1), hits mode i p = false := by
  intro q hq
  rw [List.take_add_one, hp] at hq
  rcases List.mem_append.mp hq with hq | hq
  · exact hno q hq
  · simp at hq; rw [hq]; exact hh
theorem fm_none {mode : Int} {i : Nat} {l : List (Nat × Int × Nat × Nat × Nat)} (hno : ∀ p ∈ l.take (l.map fun p => Value.ref p.1).toArray.size, hits mode i p = false) : (if i = 0 then 63 else 45) = fmS mode i l := by
  have : l.find? (hits mode i) = none := by
    rw [List.find?_eq_none]
    intro x hx
    have := hno x (by simpa using hx)
    simp [this]
  simp [fmS, this]
theorem fm_news {h₀ h : Heap} {L D : Addr} {items : List Value} {v : Value} {k : Nat} {x y : Addr × Obj} {z : List (Addr × Obj)} (N : News h₀ L h ((D, listOf ((List.toArray items).push v) (k + 1)) :: x :: y :: z)) :
    News h₀ L h ([(D, listOf (List.toArray (items ++ [v])) (k + 1))] ++ [x, y]) := by
  rw [List.push_toArray] at N
  intro p hp
  refine N p ?_
  simp only [List.cons_append, List.nil_append, List.mem_cons, List.not_mem_nil, or_false] at hp
  rcases hp with rfl | rfl | rfl
  · exact .head _
  · exact .tail _ (.head _)
  · exact .tail _ (.tail _ (.head _))
theorem fm_map {mode : Int} {D : Addr} {tm : Tok} {m : Str → Option Value} (e1 : m (Str.ofString "mode") = some (.int mode tm)) (e2 : m (Str.ofString "perm") = some (.ref D)) :
    m = fun y => if y = Str.ofString "perm" then some (.ref D) else if y = Str.ofString "mode" then some (.int mode tm) else m y := by
  funext y
  repeat (split; · next h => subst h; assumption)
  rfl
theorem fm_map2 {mode j : Int} {D : Addr} {tm tj : Tok} {m : Str → Option Value} (e1 : m (Str.ofString "mode") = some (.int mode tm)) (e2 : m (Str.ofString "perm") = some (.ref D)) (e3 : m (Str.ofString "index") = some (.int j tj)) :
    m = fun y => if y = Str.ofString "index" then some (.int j tj) else if y = Str.ofString "perm" then some (.ref D) else if y = Str.ofString "mode" then some (.int mode tm) else m y := by
  funext y
  repeat (split; · next h => subst h; assumption)
  rfl
def inJ (mode : Int) (tm : Tok) (D e it : Addr) (oe oi : Obj) (i : Nat) (r : Nat × List (Nat × Int × Nat × Nat × Nat)) (items : List Value) (k : Nat) (t : Addr) (its : Array Value) (j : Nat) (m : Str → Option Value) (news : List (Addr × Obj)) : Prop :=
  ∃ ti, t = r.1 ∧ its = (r.2.map fun p => Value.ref p.1).toArray ∧ news = [(D, listOf (List.toArray items) k), (e, oe), (it, oi)] ∧ (∀ p ∈ r.2.take j, hits mode i p = false) ∧
    m (Str.ofString "mode") = some (.int mode tm) ∧ m (Str.ofString "perm") = some (.ref D) ∧ m (Str.ofString "index") = some (.int (i : Nat) ti)
theorem c_filemode {w : World} {p : Program} {loose : List Str} {mean : ExcName → Option Value} {mg mb : Str → Option Value} {A : Around} {s : Shared} {R : Result → Shared → Prop} {mode : Int} {t : Tok}
    (X : (KK w.params).In s.heap) (T : Top p loose mean mg mb s.heap) (hA : Rm A 2)
    (ret : ∀ t h' tk', Kp s.heap h' → R (.ok (.ret (.str (tx (fmL mode)) t))) { s with heap := h', toks := tk' }) :
    codeAny (model PG w) A (.call (.ref 143) ⟨[.int mode t], []⟩) R s := by
  refine fill ?_
  k_fill
  intro _
  have hA0 := hA
  obtain ⟨hh, hdp, hun⟩ := hA
  refine' enter (binds := [(Str.ofString "mode", .int mode t)]) ?k3 ?k5 ?k8 ?k6 ?k7 ?k9 ?kB ?_ ?c2 ?c3 ?c4 ?c5
  case k3 => exact X
  case k5 => exact T
  case k6 => k_is
  case k7 => k_is
  case k8 => (simp only [recursionLimit]; omega)
  case k9 => exact BindsTo.of_eq rfl
  case kB => exact locs rfl
  case c2 => exact rfl
  case c3 => exact rfl
  case c4 => exact rfl
  case c5 => decide
  intro L h₁ F N
  try dsimp only
  try k_fold

  k_steps
  refine Hold.go ?_
  rename Fr _ _ _ _ => F1
  rename News _ _ _ _ => N1
  refine For_enum (t := 136) (items := (tb.map fun r => Value.ref r.1).toArray) hh (fmJ mode t) F1 N1 ⟨_, [], 0, rfl, .nil, rfl, rfl⟩ (fun h k => tb_top (X.keeps k)) ?_ ?_ ?_
  · intro Q9 hQ9
    k_steps
    refine Hold.go ?_
    exact hQ9 _
  · rintro e it i x Ta tk m₁ news₁ h₂ tk₂ oe oi hx hTT ⟨D, items, k, rfl, hS, e1, e2⟩ F2 N2 hn2
    rw [fm_map e1 e2] at F2
    obtain ⟨r, hr, rfl⟩ : ∃ r, tb[i]? = some r ∧ x = .ref r.1 := by
      simp only [List.getElem?_toArray, List.getElem?_map, Option.map_eq_some_iff] at hx
      obtain ⟨r, h1, h2⟩ := hx
      exact ⟨r, h1, h2.symm⟩
    have hrm : r ∈ tb := List.mem_of_getElem? hr
    have hn5 : ∀ v k, ∀ p ∈ [(D, listOf v k)], p.1 ≠ e ∧ p.1 ≠ it := fun v k p hp => by
      rw [List.mem_singleton.mp hp]
      have q := hn2 _ (List.mem_singleton.mpr rfl)
      exact q
    replace hn5 := fun v => hn5 v (k + 1)
    have hTT : IsTup h₂ Ta #[.int (i : Nat) tk, .ref r.1] := hTT
    clear F1 N1 e1 e2 hx
    try dsimp only
    try k_fold
    k_steps
    refine Hold.go ?_
    rename Fr _ _ _ _ => F3
    rename News _ _ _ _ => N3
    refine For_else (h₀ := s.heap) hh (inJ mode t D e it oe oi i r items k) ?_ ?_ ?_ ?_
    · k_steps
      rename Fr _ _ _ _ => F3
      rename News _ _ _ _ => N3
      exact ⟨_, _, _, _, _, _, rfl, rfl, F3, N3, _, rfl, rfl, rfl, fun p hp => absurd hp (by simp), rfl, rfl, rfl⟩
    · rintro _ _ j m₂ news₂ h₃ ⟨_, rfl, rfl, _⟩ F4 N4
      exact tb_row (X.keeps F4.keep) r hrm
    · rintro _ _ j v m₂ news₂ h₃ tk₃ I oI hv ⟨ti, rfl, rfl, rfl, hno, e1, e2, e3⟩ F4 N4 hn4
      rw [fm_map2 e1 e2 e3] at F4
      obtain ⟨p, hp, rfl⟩ : ∃ p, r.2[j]? = some p ∧ v = .ref p.1 := by
        simp only [List.getElem?_toArray, List.getElem?_map, Option.map_eq_some_iff] at hv
        obtain ⟨p, h1, h2⟩ := hv
        exact ⟨p, h1, h2.symm⟩
      have hd3 : I ≠ D := fun q => hn4 _ (.head _) q.symm
      have N4 : News s.heap _ h₃ [(D, listOf (List.toArray items) k), (e, oe), (it, oi), (I, oI)] := N4
      have hpt := tb_pair (X.keeps F4.keep) r hrm p (List.mem_of_getElem? hp)
      clear F3 N3 e1 e2 e3
      have hd1 : e ≠ D := fun q => (hn2 _ (.head _)).1 q.symm
      have hd2 : it ≠ D := fun q => (hn2 _ (.head _)).2 q.symm
      have hsz := fm_len hS
      try dsimp only
      try k_fold
      k_steps
      by_cases hi : i = 0
      · rw [if_pos (by simp [hi])]
        refine Hold.go ?_
        k_steps
        refine c_ifmt (X.keeps (Fr.keep ‹_›)) (T.keeps (Fr.keep ‹_›)) (Rm.le' (n := 1) (Rm.deeper hA0) (by decide)) fun t9 h9 tk9 k9 => ?_
        rename Fr _ _ _ _ => F6
        rename News _ _ _ _ => N6
        replace F6 := F6.keeps k9
        replace N6 := N6.grown k9
        try dsimp only
        try k_fold
        k_steps
        by_cases hb : Builtin.bitAnd mode 61440 = p.2.1
        · rw [if_pos (by simp [hb])]
          refine Hold.go ?_
          k_steps
          dsimp only
          unfold EStep
          dsimp only
          try k_fold
          k_steps
          rename Fr _ _ _ _ => F5
          rename News _ _ _ _ => N5
          exact ⟨_, _, _, _, rfl, F5, fm_news N5, hn5 _, D, _, _, rfl, fm_snoc hS hr (fm_hit hno hp (by simp [hits, hi, hb])), rfl, rfl⟩
        · rw [if_neg (by simp [hb])]
          refine Hold.go ?_
          k_steps
          rename Fr _ _ _ _ => F5
          rename News _ _ _ _ => N5
          exact ⟨_, _, _, [(D, listOf (List.toArray items) k), (e, oe), (it, oi)], rfl, F5, N5, hn4, _, rfl, rfl, rfl, fm_miss hno hp (by simp [hits, hi, hb]), rfl, rfl, rfl⟩
      · rw [if_neg (by simp [hi])]
        refine Hold.go ?_
        k_steps
        by_cases hb : Builtin.bitAnd mode p.2.1 = p.2.1
        · rw [if_pos (by simp [hb])]
          refine Hold.go ?_
          k_steps
          dsimp only
          unfold EStep
          dsimp only
          try k_fold
          k_steps
          rename Fr _ _ _ _ => F5
          rename News _ _ _ _ => N5
          exact ⟨_, _, _, _, rfl, F5, fm_news N5, hn5 _, D, _, _, rfl, fm_snoc hS hr (fm_hit hno hp (by simp [hits, hi, hb])), rfl, rfl⟩
        · rw [if_neg (by simp [hb])]
          refine Hold.go ?_
          k_steps
          rename Fr _ _ _ _ => F5
          rename News _ _ _ _ => N5
          exact ⟨_, _, _, [(D, listOf (List.toArray items) k), (e, oe), (it, oi)], rfl, F5, N5, hn4, _, rfl, rfl, rfl, fm_miss hno hp (by simp [hits, hi, hb]), rfl, rfl, rfl⟩
    · rintro _ _ m₂ news₂ h₃ tk₃ ⟨ti, rfl, rfl, rfl, hno, e1, e2, e3⟩ F4 N4
      rw [fm_map2 e1 e2 e3] at F4
      have hsz := fm_len hS
      clear F3 N3 e1 e2 e3
      have hd1 : e ≠ D := fun q => (hn2 _ (.head _)).1 q.symm
      have hd2 : it ≠ D := fun q => (hn2 _ (.head _)).2 q.symm
      try dsimp only
      try k_fold
      k_steps
      by_cases hi : i = 0
      · rw [if_pos (by simp [hi])]
        refine Hold.go ?_
        k_steps
        rename Fr _ _ _ _ => F5
        rename News _ _ _ _ => N5
        rw [q_tx] at N5
        exact ⟨_, _, _, _, rfl, F5, fm_news N5, hn5 _, D, _, _, rfl, fm_snoc hS hr (by rw [← fm_none hno, if_pos hi]), rfl, rfl⟩
      · rw [if_neg (by simp [hi])]
        refine Hold.go ?_
        k_steps
        rename Fr _ _ _ _ => F5
        rename News _ _ _ _ => N5
        rw [tx_c45] at N5
        exact ⟨_, _, _, _, rfl, F5, fm_news N5, hn5 _, D, _, _, rfl, fm_snoc hS hr (by rw [← fm_none hno, if_neg hi]), rfl, rfl⟩
  · rintro m₁ news₁ h₂ tk₂ ⟨D, items, k, rfl, hS, e1, e2⟩ F2 N2
    rw [fm_map e1 e2] at F2
    have hS : StrsAre items ((fmL mode).map fun c => tx [c]) := by
      have : tb.zipIdx.take (tb.map fun r => Value.ref r.1).toArray.size = tb.zipIdx := List.take_of_length_le (by simp)
      rw [this] at hS
      exact hS
    clear F1 N1 e1 e2
    try dsimp only
    try k_fold
    k_steps
    refine join_signs (News.isList N2 (.head _)) hS (by simp [fmL, tb]) fun t k => ?_
    exact ret _ _ _ F2.keep
end Mine

-- P1
namespace Mine
theorem topOff_P1 : True := by
  w_top off
  trivial
end Mine
namespace Mine
open PySem PySem.W PyProof.Rows PySem.Calls PySem.Spec
theorem tb_bits {m B : Nat} (hB : B < 2 ^ 16) : (m &&& B = B) ↔ ∀ t < 16, B.testBit t = true → m.testBit t = true := by
  constructor
  · intro h t _ hb
    rw [← h, Nat.testBit_and] at hb
    exact (Bool.and_eq_true _ _ ▸ hb).1
  · intro h
    refine Nat.eq_of_testBit_eq fun t => ?_
    rw [Nat.testBit_and]
    by_cases hb : B.testBit t = true
    · have ht : t < 16 := by
        refine Nat.lt_of_not_le fun hle => ?_
        rw [Nat.testBit_lt_two_pow (Nat.lt_of_lt_of_le hB (Nat.pow_le_pow_right (by decide) hle))] at hb
        exact absurd hb (by decide)
      rw [hb, h t ht hb]; rfl
    · rw [Bool.not_eq_true] at hb
      rw [hb, Bool.and_false]
theorem tb_one {m j : Nat} (hj : j < 16) : (m &&& 2 ^ j = 2 ^ j) ↔ m / 2 ^ j % 2 = 1 := by
  rw [tb_bits (Nat.pow_lt_pow_right (by decide) hj)]
  have e : m.testBit j = decide (m / 2 ^ j % 2 = 1) := Nat.testBit_eq_decide_div_mod_eq
  constructor
  · intro h
    have := h j hj (by simp)
    rw [e] at this
    exact of_decide_eq_true this
  · intro h t _ ht
    have : t = j := by
      rw [Nat.testBit_two_pow] at ht
      exact (of_decide_eq_true ht).symm
    subst this
    rw [e]; exact decide_eq_true h
theorem tb_two {m i j B : Nat} (hB : B < 2 ^ 16) (hi : i < 16) (hj : j < 16) (hb : ∀ t < 16, B.testBit t = (decide (t = i) || decide (t = j))) : (m &&& B = B) ↔ (m / 2 ^ i % 2 = 1 ∧ m / 2 ^ j % 2 = 1) := by
  rw [tb_bits hB]
  have e : ∀ j, m.testBit j = decide (m / 2 ^ j % 2 = 1) := fun j => Nat.testBit_eq_decide_div_mod_eq
  constructor
  · intro h
    have h1 := h i hi (by rw [hb i hi]; simp)
    have h2 := h j hj (by rw [hb j hj]; simp)
    rw [e] at h1 h2
    exact ⟨of_decide_eq_true h1, of_decide_eq_true h2⟩
  · rintro ⟨h1, h2⟩ t ht hbt
    rw [hb t ht] at hbt
    simp only [Bool.or_eq_true, decide_eq_true_eq] at hbt
    rw [e]
    rcases hbt with rfl | rfl
    · exact decide_eq_true h1
    · exact decide_eq_true h2
theorem tb_kind (m : Nat) : m &&& 61440 = m / 4096 % 16 * 4096 := by
  refine Nat.eq_of_testBit_eq fun t => ?_
  rw [Nat.testBit_and, show 61440 = (2 ^ 4 - 1) <<< 12 from rfl, Nat.testBit_shiftLeft, Nat.testBit_two_pow_sub_one, show m / 4096 % 16 * 4096 = (m / 2 ^ 12 % 2 ^ 4) <<< 12 from by rw [Nat.shiftLeft_eq], Nat.testBit_shiftLeft, Nat.testBit_mod_two_pow, Nat.testBit_div_two_pow]
  by_cases h : 12 ≤ t
  · simp only [h, decide_true, Bool.true_and]
    rw [show t - 12 + 12 = t by omega, Bool.and_comm]
  · simp [h]

/-- the sign of a kind -/
def kch (q : Nat) : Nat := if q = 10 then 108 else if q = 12 then 115 else if q = 8 then 45 else if q = 6 then 98 else if q = 4 then 100 else if q = 2 then 99 else if q = 1 then 112 else 63
def c1 (ch b : Nat) : Nat := if b = 1 then ch else 45
/-- the sign of a run right b with its special right a -/
def c3 (ch cc b a : Nat) : Nat := if b = 1 ∧ a = 1 then ch else if a = 1 then cc else if b = 1 then 120 else 45
def rowOf (q b8 b7 b6 b11 b5 b4 b3 b10 b2 b1 b0 b9 : Nat) : List Nat := [kch q, c1 114 b8, c1 119 b7, c3 115 83 b6 b11, c1 114 b5, c1 119 b4, c3 115 83 b3 b10, c1 114 b2, c1 119 b1, c3 116 84 b0 b9]
theorem band_nat (m b : Nat) : (Builtin.bitAnd (m : Int) (b : Int) == (b : Int)) = decide (m &&& b = b) := by
  show ((((m &&& b : Nat) : Int)) == (b : Int)) = _
  by_cases h : m &&& b = b
  · simp [h]
  · simp only [h, decide_false]
    exact beq_eq_false_iff_ne.mpr fun e => h (by exact_mod_cast e)
theorem band_kind (m b : Nat) : (Builtin.bitAnd (m : Int) (61440 : Int) == (b : Int)) = decide (m / 4096 % 16 * 4096 = b) := by
  show ((((m &&& 61440 : Nat) : Int)) == (b : Int)) = _
  rw [tb_kind]
  by_cases h : m / 4096 % 16 * 4096 = b
  · simp [h]
  · simp only [h, decide_false]
    exact beq_eq_false_iff_ne.mpr fun e => h (by exact_mod_cast e)
theorem fm_kind (m : Nat) : fmS (m : Int) 0 [(104, 40960, 575, 108, 603), (105, 49152, 577, 115, 604), (106, 32768, 571, 45, 605), (107, 24576, 569, 98, 606), (108, 16384, 565, 100, 607), (109, 8192, 567, 99, 608), (110, 4096, 573, 112, 609)] = kch (m / 4096 % 16) := by
  have k1 : (Builtin.bitAnd (m : Int) 61440 == (40960 : Int)) = decide (m / 4096 % 16 * 4096 = 40960) := band_kind m 40960
  have k2 : (Builtin.bitAnd (m : Int) 61440 == (49152 : Int)) = decide (m / 4096 % 16 * 4096 = 49152) := band_kind m 49152
  have k3 : (Builtin.bitAnd (m : Int) 61440 == (32768 : Int)) = decide (m / 4096 % 16 * 4096 = 32768) := band_kind m 32768
  have k4 : (Builtin.bitAnd (m : Int) 61440 == (24576 : Int)) = decide (m / 4096 % 16 * 4096 = 24576) := band_kind m 24576
  have k5 : (Builtin.bitAnd (m : Int) 61440 == (16384 : Int)) = decide (m / 4096 % 16 * 4096 = 16384) := band_kind m 16384
  have k6 : (Builtin.bitAnd (m : Int) 61440 == (8192 : Int)) = decide (m / 4096 % 16 * 4096 = 8192) := band_kind m 8192
  have k7 : (Builtin.bitAnd (m : Int) 61440 == (4096 : Int)) = decide (m / 4096 % 16 * 4096 = 4096) := band_kind m 4096
  have hq : m / 4096 % 16 < 16 := Nat.mod_lt _ (by decide)
  generalize m / 4096 % 16 = q at *
  simp only [fmS, hits, List.find?, if_true, k1, k2, k3, k4, k5, k6, k7]
  clear k1 k2 k3 k4 k5 k6 k7
  revert q
  decide
theorem fm_one {m i a j t c u : Nat} (hi : i ≠ 0) (hj : j < 16) : fmS (m : Int) i [(a, ((2 ^ j : Nat) : Int), t, c, u)] = c1 c (m / 2 ^ j % 2) := by
  have k := band_nat m (2 ^ j)
  simp only [fmS, hits, List.find?, if_neg hi, k, tb_one hj]
  by_cases h : m / 2 ^ j % 2 = 1 <;> simp [h, c1]
theorem fm_two {m i a1 a2 a3 j k B t1 t2 t3 c cc u1 u2 u3 : Nat} (hi : i ≠ 0) (hB : B < 2 ^ 16) (hj : j < 16) (hk : k < 16) (hb : ∀ t < 16, B.testBit t = (decide (t = j) || decide (t = k))) :
    fmS (m : Int) i [(a1, (B : Int), t1, c, u1), (a2, ((2 ^ k : Nat) : Int), t2, cc, u2), (a3, ((2 ^ j : Nat) : Int), t3, 120, u3)] = c3 c cc (m / 2 ^ j % 2) (m / 2 ^ k % 2) := by
  have k1 := band_nat m B
  have k2 := band_nat m (2 ^ k)
  have k3 := band_nat m (2 ^ j)
  simp only [fmS, hits, List.find?, if_neg hi, k1, k2, k3, tb_one hj, tb_one hk, tb_two hB hj hk hb]
  by_cases h : m / 2 ^ j % 2 = 1 <;> by_cases h' : m / 2 ^ k % 2 = 1 <;> simp [h, h', c3]
theorem fm_row (m : Nat) : fmL (m : Int) = rowOf (m / 4096 % 16) (m / 256 % 2) (m / 128 % 2) (m / 64 % 2) (m / 2048 % 2) (m / 32 % 2) (m / 16 % 2) (m / 8 % 2) (m / 1024 % 2) (m / 4 % 2) (m / 2 % 2) (m / 1 % 2) (m / 512 % 2) := by
  show [fmS _ 0 _, fmS _ 1 _, fmS _ 2 _, fmS _ 3 _, fmS _ 4 _, fmS _ 5 _, fmS _ 6 _, fmS _ 7 _, fmS _ 8 _, fmS _ 9 _] = rowOf _ _ _ _ _ _ _ _ _ _ _ _ _
  rw [rowOf]
  refine List.cons_eq_cons.mpr ⟨fm_kind m, ?_⟩
  refine List.cons_eq_cons.mpr ⟨fm_one (j := 8) (by decide) (by decide), ?_⟩
  refine List.cons_eq_cons.mpr ⟨fm_one (j := 7) (by decide) (by decide), ?_⟩
  refine List.cons_eq_cons.mpr ⟨fm_two (j := 6) (k := 11) (B := 2112) (by decide) (by decide) (by decide) (by decide) (by decide), ?_⟩
  refine List.cons_eq_cons.mpr ⟨fm_one (j := 5) (by decide) (by decide), ?_⟩
  refine List.cons_eq_cons.mpr ⟨fm_one (j := 4) (by decide) (by decide), ?_⟩
  refine List.cons_eq_cons.mpr ⟨fm_two (j := 3) (k := 10) (B := 1032) (by decide) (by decide) (by decide) (by decide) (by decide), ?_⟩
  refine List.cons_eq_cons.mpr ⟨fm_one (j := 2) (by decide) (by decide), ?_⟩
  refine List.cons_eq_cons.mpr ⟨fm_one (j := 1) (by decide) (by decide), ?_⟩
  refine List.cons_eq_cons.mpr ⟨fm_two (j := 0) (k := 9) (B := 513) (by decide) (by decide) (by decide) (by decide) (by decide), rfl⟩
end Mine

-- P2
namespace Mine
theorem topOff_P2 : True := by
  w_top off
  trivial
end Mine
namespace Mine
open PySem PySem.W PyProof.Rows PySem.Calls PySem.Spec
def kinds : List Nat := [1, 2, 4, 6, 8, 10, 12]
theorem fd_k : ∀ q ∈ kinds, Txt.find (Str.ofString "?pc?d?b?-?l?s") (tx [kch q]) = (q : Int) := by decide +kernel
theorem fd_1 : ∀ b < 2, Txt.find (Str.ofString "-" ++ Txt.item (Str.ofString "-rw-rw-rw-") 1) (tx [c1 114 b]) = (b : Int) := by decide +kernel
theorem fd_2 : ∀ b < 2, Txt.find (Str.ofString "-" ++ Txt.item (Str.ofString "-rw-rw-rw-") 2) (tx [c1 119 b]) = (b : Int) := by decide +kernel
theorem fd_4 : ∀ b < 2, Txt.find (Str.ofString "-" ++ Txt.item (Str.ofString "-rw-rw-rw-") 4) (tx [c1 114 b]) = (b : Int) := by decide +kernel
theorem fd_5 : ∀ b < 2, Txt.find (Str.ofString "-" ++ Txt.item (Str.ofString "-rw-rw-rw-") 5) (tx [c1 119 b]) = (b : Int) := by decide +kernel
theorem fd_7 : ∀ b < 2, Txt.find (Str.ofString "-" ++ Txt.item (Str.ofString "-rw-rw-rw-") 7) (tx [c1 114 b]) = (b : Int) := by decide +kernel
theorem fd_8 : ∀ b < 2, Txt.find (Str.ofString "-" ++ Txt.item (Str.ofString "-rw-rw-rw-") 8) (tx [c1 119 b]) = (b : Int) := by decide +kernel
theorem fd_s : ∀ b < 2, ∀ a < 2, (Txt.find (Str.ofString "-xSs") (tx [c3 115 83 b a])).fmod 2 = (b : Int) ∧ (Txt.find (Str.ofString "-xSs") (tx [c3 115 83 b a])).fdiv 2 = (a : Int) := by decide +kernel
theorem fd_t : ∀ b < 2, ∀ a < 2, (Txt.find (Str.ofString "-xTt") (tx [c3 116 84 b a])).fmod 2 = (b : Int) ∧ (Txt.find (Str.ofString "-xTt") (tx [c3 116 84 b a])).fdiv 2 = (a : Int) := by decide +kernel
structure Bits (q b8 b7 b6 b11 b5 b4 b3 b10 b2 b1 b0 b9 : Nat) : Prop where
  q : q ∈ kinds
  b8 : b8 < 2
  b7 : b7 < 2
  b6 : b6 < 2
  b11 : b11 < 2
  b5 : b5 < 2
  b4 : b4 < 2
  b3 : b3 < 2
  b10 : b10 < 2
  b2 : b2 < 2
  b1 : b1 < 2
  b0 : b0 < 2
  b9 : b9 < 2
theorem bck_row {q b8 b7 b6 b11 b5 b4 b3 b10 b2 b1 b0 b9 : Nat} (B : Bits q b8 b7 b6 b11 b5 b4 b3 b10 b2 b1 b0 b9) :
    bck (rowOf q b8 b7 b6 b11 b5 b4 b3 b10 b2 b1 b0 b9) = ((q * 4096 + b8 * 256 + b7 * 128 + b6 * 64 + b11 * 2048 + b5 * 32 + b4 * 16 + b3 * 8 + b10 * 1024 + b2 * 4 + b1 * 2 + b0 + b9 * 512 : Nat) : Int) := by
  have e1 : t1 (rowOf q b8 b7 b6 b11 b5 b4 b3 b10 b2 b1 b0 b9) 1 = (b8 : Int) * 256 := congrArg (· * (2 : Int) ^ 8) (fd_1 b8 B.b8)
  have e2 : t1 (rowOf q b8 b7 b6 b11 b5 b4 b3 b10 b2 b1 b0 b9) 2 = (b7 : Int) * 128 := congrArg (· * (2 : Int) ^ 7) (fd_2 b7 B.b7)
  have e4 : t1 (rowOf q b8 b7 b6 b11 b5 b4 b3 b10 b2 b1 b0 b9) 4 = (b5 : Int) * 32 := congrArg (· * (2 : Int) ^ 5) (fd_4 b5 B.b5)
  have e5 : t1 (rowOf q b8 b7 b6 b11 b5 b4 b3 b10 b2 b1 b0 b9) 5 = (b4 : Int) * 16 := congrArg (· * (2 : Int) ^ 4) (fd_5 b4 B.b4)
  have e7 : t1 (rowOf q b8 b7 b6 b11 b5 b4 b3 b10 b2 b1 b0 b9) 7 = (b2 : Int) * 4 := congrArg (· * (2 : Int) ^ 2) (fd_7 b2 B.b2)
  have e8 : t1 (rowOf q b8 b7 b6 b11 b5 b4 b3 b10 b2 b1 b0 b9) 8 = (b1 : Int) * 2 := congrArg (· * (2 : Int) ^ 1) (fd_8 b1 B.b1)
  have e3 : t2 (rowOf q b8 b7 b6 b11 b5 b4 b3 b10 b2 b1 b0 b9) 3 = (b6 : Int) * 64 + (b11 : Int) * 2048 := by
    have h := fd_s b6 B.b6 b11 B.b11
    show (Txt.find (Str.ofString "-xSs") (tx [c3 115 83 b6 b11])).fmod 2 * 2 ^ 6 + (Txt.find (Str.ofString "-xSs") (tx [c3 115 83 b6 b11])).fdiv 2 * 2 ^ 11 = _
    rw [h.1, h.2]; rfl
  have e6 : t2 (rowOf q b8 b7 b6 b11 b5 b4 b3 b10 b2 b1 b0 b9) 6 = (b3 : Int) * 8 + (b10 : Int) * 1024 := by
    have h := fd_s b3 B.b3 b10 B.b10
    show (Txt.find (Str.ofString "-xSs") (tx [c3 115 83 b3 b10])).fmod 2 * 2 ^ 3 + (Txt.find (Str.ofString "-xSs") (tx [c3 115 83 b3 b10])).fdiv 2 * 2 ^ 10 = _
    rw [h.1, h.2]; rfl
  have e9 : t2 (rowOf q b8 b7 b6 b11 b5 b4 b3 b10 b2 b1 b0 b9) 9 = (b0 : Int) * 1 + (b9 : Int) * 512 := by
    have h := fd_t b0 B.b0 b9 B.b9
    show (Txt.find (Str.ofString "-xTt") (tx [c3 116 84 b0 b9])).fmod 2 * 2 ^ 0 + (Txt.find (Str.ofString "-xTt") (tx [c3 116 84 b0 b9])).fdiv 2 * 2 ^ 9 = _
    rw [h.1, h.2]; rfl
  have ek : Txt.find (Str.ofString "?pc?d?b?-?l?s") (tx [(rowOf q b8 b7 b6 b11 b5 b4 b3 b10 b2 b1 b0 b9).getD 0 0]) = (q : Int) := fd_k q B.q
  unfold bck
  rw [ek]
  simp only [ks1, ks2, List.map_cons, List.map_nil, List.sum_cons, List.sum_nil, e1, e2, e3, e4, e5, e6, e7, e8, e9]
  omega
/-- a row of signs that filemode may write -/
def Row (r : List Nat) : Prop := ∃ q b8 b7 b6 b11 b5 b4 b3 b10 b2 b1 b0 b9, Bits q b8 b7 b6 b11 b5 b4 b3 b10 b2 b1 b0 b9 ∧ r = rowOf q b8 b7 b6 b11 b5 b4 b3 b10 b2 b1 b0 b9
theorem kinds16 {q : Nat} (h : q ∈ kinds) : q < 16 := by
  simp only [kinds, List.mem_cons, List.not_mem_nil, or_false] at h; omega
theorem dig11 {hi b lo : Nat} (h : lo < 2048) (hb : b < 2) : (hi * 4096 + b * 2048 + lo) / 2048 % 2 = b := by omega
theorem dig10 {hi b lo : Nat} (h : lo < 1024) (hb : b < 2) : (hi * 2048 + b * 1024 + lo) / 1024 % 2 = b := by omega
theorem dig9 {hi b lo : Nat} (h : lo < 512) (hb : b < 2) : (hi * 1024 + b * 512 + lo) / 512 % 2 = b := by omega
theorem dig8 {hi b lo : Nat} (h : lo < 256) (hb : b < 2) : (hi * 512 + b * 256 + lo) / 256 % 2 = b := by omega
theorem dig7 {hi b lo : Nat} (h : lo < 128) (hb : b < 2) : (hi * 256 + b * 128 + lo) / 128 % 2 = b := by omega
theorem dig6 {hi b lo : Nat} (h : lo < 64) (hb : b < 2) : (hi * 128 + b * 64 + lo) / 64 % 2 = b := by omega
theorem dig5 {hi b lo : Nat} (h : lo < 32) (hb : b < 2) : (hi * 64 + b * 32 + lo) / 32 % 2 = b := by omega
theorem dig4 {hi b lo : Nat} (h : lo < 16) (hb : b < 2) : (hi * 32 + b * 16 + lo) / 16 % 2 = b := by omega
theorem dig3 {hi b lo : Nat} (h : lo < 8) (hb : b < 2) : (hi * 16 + b * 8 + lo) / 8 % 2 = b := by omega
theorem dig2 {hi b lo : Nat} (h : lo < 4) (hb : b < 2) : (hi * 8 + b * 4 + lo) / 4 % 2 = b := by omega
theorem dig1 {hi b lo : Nat} (h : lo < 2) (hb : b < 2) : (hi * 4 + b * 2 + lo) / 2 % 2 = b := by omega
theorem dig0 {hi b lo : Nat} (h : lo < 1) (hb : b < 2) : (hi * 2 + b * 1 + lo) / 1 % 2 = b := by omega
theorem dig_q {q lo : Nat} (h : lo < 4096) (hq : q < 16) : (q * 4096 + lo) / 4096 % 16 = q := by omega
theorem row_congr {q b8 b7 b6 b11 b5 b4 b3 b10 b2 b1 b0 b9 q' b8' b7' b6' b11' b5' b4' b3' b10' b2' b1' b0' b9' : Nat} (e : q' = q) (e8 : b8' = b8) (e7 : b7' = b7) (e6 : b6' = b6) (e11 : b11' = b11) (e5 : b5' = b5) (e4 : b4' = b4) (e3 : b3' = b3) (e10 : b10' = b10) (e2 : b2' = b2) (e1 : b1' = b1) (e0 : b0' = b0) (e9 : b9' = b9) :
    rowOf q' b8' b7' b6' b11' b5' b4' b3' b10' b2' b1' b0' b9' = rowOf q b8 b7 b6 b11 b5 b4 b3 b10 b2 b1 b0 b9 := by
  subst e e8 e7 e6 e11 e5 e4 e3 e10 e2 e1 e0 e9; rfl
theorem fm_back {r : List Nat} (h : Row r) : fmL (bck r) = r := by
  obtain ⟨q, b8, b7, b6, b11, b5, b4, b3, b10, b2, b1, b0, b9, B, rfl⟩ := h
  have hq := kinds16 B.q
  have hB := B
  obtain ⟨_, h8, h7, h6, h11, h5, h4, h3, h10, h2, h1, h0, h9⟩ := B
  rw [bck_row hB, fm_row]
  exact row_congr (by rw [show q * 4096 + b8 * 256 + b7 * 128 + b6 * 64 + b11 * 2048 + b5 * 32 + b4 * 16 + b3 * 8 + b10 * 1024 + b2 * 4 + b1 * 2 + b0 + b9 * 512 = q * 4096 + (b11 * 2048 + b10 * 1024 + b9 * 512 + b8 * 256 + b7 * 128 + b6 * 64 + b5 * 32 + b4 * 16 + b3 * 8 + b2 * 4 + b1 * 2 + b0 * 1) by omega]; exact dig_q (by omega) hq)
    (by rw [show q * 4096 + b8 * 256 + b7 * 128 + b6 * 64 + b11 * 2048 + b5 * 32 + b4 * 16 + b3 * 8 + b10 * 1024 + b2 * 4 + b1 * 2 + b0 + b9 * 512 = (q * 8 + b11 * 4 + b10 * 2 + b9 * 1) * 512 + b8 * 256 + (b7 * 128 + b6 * 64 + b5 * 32 + b4 * 16 + b3 * 8 + b2 * 4 + b1 * 2 + b0 * 1) by omega]; exact dig8 (by omega) h8)
    (by rw [show q * 4096 + b8 * 256 + b7 * 128 + b6 * 64 + b11 * 2048 + b5 * 32 + b4 * 16 + b3 * 8 + b10 * 1024 + b2 * 4 + b1 * 2 + b0 + b9 * 512 = (q * 16 + b11 * 8 + b10 * 4 + b9 * 2 + b8 * 1) * 256 + b7 * 128 + (b6 * 64 + b5 * 32 + b4 * 16 + b3 * 8 + b2 * 4 + b1 * 2 + b0 * 1) by omega]; exact dig7 (by omega) h7)
    (by rw [show q * 4096 + b8 * 256 + b7 * 128 + b6 * 64 + b11 * 2048 + b5 * 32 + b4 * 16 + b3 * 8 + b10 * 1024 + b2 * 4 + b1 * 2 + b0 + b9 * 512 = (q * 32 + b11 * 16 + b10 * 8 + b9 * 4 + b8 * 2 + b7 * 1) * 128 + b6 * 64 + (b5 * 32 + b4 * 16 + b3 * 8 + b2 * 4 + b1 * 2 + b0 * 1) by omega]; exact dig6 (by omega) h6)
    (by rw [show q * 4096 + b8 * 256 + b7 * 128 + b6 * 64 + b11 * 2048 + b5 * 32 + b4 * 16 + b3 * 8 + b10 * 1024 + b2 * 4 + b1 * 2 + b0 + b9 * 512 = (q * 1) * 4096 + b11 * 2048 + (b10 * 1024 + b9 * 512 + b8 * 256 + b7 * 128 + b6 * 64 + b5 * 32 + b4 * 16 + b3 * 8 + b2 * 4 + b1 * 2 + b0 * 1) by omega]; exact dig11 (by omega) h11)
    (by rw [show q * 4096 + b8 * 256 + b7 * 128 + b6 * 64 + b11 * 2048 + b5 * 32 + b4 * 16 + b3 * 8 + b10 * 1024 + b2 * 4 + b1 * 2 + b0 + b9 * 512 = (q * 64 + b11 * 32 + b10 * 16 + b9 * 8 + b8 * 4 + b7 * 2 + b6 * 1) * 64 + b5 * 32 + (b4 * 16 + b3 * 8 + b2 * 4 + b1 * 2 + b0 * 1) by omega]; exact dig5 (by omega) h5)
    (by rw [show q * 4096 + b8 * 256 + b7 * 128 + b6 * 64 + b11 * 2048 + b5 * 32 + b4 * 16 + b3 * 8 + b10 * 1024 + b2 * 4 + b1 * 2 + b0 + b9 * 512 = (q * 128 + b11 * 64 + b10 * 32 + b9 * 16 + b8 * 8 + b7 * 4 + b6 * 2 + b5 * 1) * 32 + b4 * 16 + (b3 * 8 + b2 * 4 + b1 * 2 + b0 * 1) by omega]; exact dig4 (by omega) h4)
    (by rw [show q * 4096 + b8 * 256 + b7 * 128 + b6 * 64 + b11 * 2048 + b5 * 32 + b4 * 16 + b3 * 8 + b10 * 1024 + b2 * 4 + b1 * 2 + b0 + b9 * 512 = (q * 256 + b11 * 128 + b10 * 64 + b9 * 32 + b8 * 16 + b7 * 8 + b6 * 4 + b5 * 2 + b4 * 1) * 16 + b3 * 8 + (b2 * 4 + b1 * 2 + b0 * 1) by omega]; exact dig3 (by omega) h3)
    (by rw [show q * 4096 + b8 * 256 + b7 * 128 + b6 * 64 + b11 * 2048 + b5 * 32 + b4 * 16 + b3 * 8 + b10 * 1024 + b2 * 4 + b1 * 2 + b0 + b9 * 512 = (q * 2 + b11 * 1) * 2048 + b10 * 1024 + (b9 * 512 + b8 * 256 + b7 * 128 + b6 * 64 + b5 * 32 + b4 * 16 + b3 * 8 + b2 * 4 + b1 * 2 + b0 * 1) by omega]; exact dig10 (by omega) h10)
    (by rw [show q * 4096 + b8 * 256 + b7 * 128 + b6 * 64 + b11 * 2048 + b5 * 32 + b4 * 16 + b3 * 8 + b10 * 1024 + b2 * 4 + b1 * 2 + b0 + b9 * 512 = (q * 512 + b11 * 256 + b10 * 128 + b9 * 64 + b8 * 32 + b7 * 16 + b6 * 8 + b5 * 4 + b4 * 2 + b3 * 1) * 8 + b2 * 4 + (b1 * 2 + b0 * 1) by omega]; exact dig2 (by omega) h2)
    (by rw [show q * 4096 + b8 * 256 + b7 * 128 + b6 * 64 + b11 * 2048 + b5 * 32 + b4 * 16 + b3 * 8 + b10 * 1024 + b2 * 4 + b1 * 2 + b0 + b9 * 512 = (q * 1024 + b11 * 512 + b10 * 256 + b9 * 128 + b8 * 64 + b7 * 32 + b6 * 16 + b5 * 8 + b4 * 4 + b3 * 2 + b2 * 1) * 4 + b1 * 2 + (b0 * 1) by omega]; exact dig1 (by omega) h1)
    (by rw [show q * 4096 + b8 * 256 + b7 * 128 + b6 * 64 + b11 * 2048 + b5 * 32 + b4 * 16 + b3 * 8 + b10 * 1024 + b2 * 4 + b1 * 2 + b0 + b9 * 512 = (q * 2048 + b11 * 1024 + b10 * 512 + b9 * 256 + b8 * 128 + b7 * 64 + b6 * 32 + b5 * 16 + b4 * 8 + b3 * 4 + b2 * 2 + b1 * 1) * 2 + b0 * 1 + (0) by omega]; exact dig0 (by omega) h0)
    (by rw [show q * 4096 + b8 * 256 + b7 * 128 + b6 * 64 + b11 * 2048 + b5 * 32 + b4 * 16 + b3 * 8 + b10 * 1024 + b2 * 4 + b1 * 2 + b0 + b9 * 512 = (q * 4 + b11 * 2 + b10 * 1) * 1024 + b9 * 512 + (b8 * 256 + b7 * 128 + b6 * 64 + b5 * 32 + b4 * 16 + b3 * 8 + b2 * 4 + b1 * 2 + b0 * 1) by omega]; exact dig9 (by omega) h9)
theorem bin (m : Nat) : m / 4096 * 4096 + m / 256 % 2 * 256 + m / 128 % 2 * 128 + m / 64 % 2 * 64 + m / 2048 % 2 * 2048 + m / 32 % 2 * 32 + m / 16 % 2 * 16 + m / 8 % 2 * 8 + m / 1024 % 2 * 1024 + m / 4 % 2 * 4 + m / 2 % 2 * 2 + m / 1 % 2 + m / 512 % 2 * 512 = m := by
  have h : ∀ n : Nat, n / 2 * 2 + n % 2 = n := fun n => by omega
  have g : ∀ a b : Nat, m / a / b = m / (a * b) := fun a b => Nat.div_div_eq_div_mul m a b
  have k0 := h (m / 1)
  have k1 := h (m / 2)
  have k2 := h (m / 4)
  have k3 := h (m / 8)
  have k4 := h (m / 16)
  have k5 := h (m / 32)
  have k6 := h (m / 64)
  have k7 := h (m / 128)
  have k8 := h (m / 256)
  have k9 := h (m / 512)
  have k10 := h (m / 1024)
  have k11 := h (m / 2048)
  simp only [g, Nat.div_one] at k0 k1 k2 k3 k4 k5 k6 k7 k8 k9 k10 k11
  simp only [Nat.reduceMul, Nat.div_one] at *
  clear h g
  generalize m % 2 = c0 at *
  generalize m / 2 % 2 = c1 at *
  generalize m / 4 % 2 = c2 at *
  generalize m / 8 % 2 = c3 at *
  generalize m / 16 % 2 = c4 at *
  generalize m / 32 % 2 = c5 at *
  generalize m / 64 % 2 = c6 at *
  generalize m / 128 % 2 = c7 at *
  generalize m / 256 % 2 = c8 at *
  generalize m / 512 % 2 = c9 at *
  generalize m / 1024 % 2 = c10 at *
  generalize m / 2048 % 2 = c11 at *
  generalize m / 2 = d1 at *
  generalize m / 4 = d2 at *
  generalize m / 8 = d3 at *
  generalize m / 16 = d4 at *
  generalize m / 32 = d5 at *
  generalize m / 64 = d6 at *
  generalize m / 128 = d7 at *
  generalize m / 256 = d8 at *
  generalize m / 512 = d9 at *
  generalize m / 1024 = d10 at *
  generalize m / 2048 = d11 at *
  generalize m / 4096 = d12 at *
  omega
theorem num_nat {k u l : Int} (hk : 0 ≤ k ∧ k < 64) (hu : 0 ≤ u ∧ u < 64) (hl : 0 ≤ l ∧ l < 64) : ∃ q m : Nat, q ∈ kinds ∧ number k u l = (m : Int) ∧ m / 4096 = q := by
  obtain ⟨j, hj⟩ : ∃ j : Nat, j = (k.fmod 7).toNat := ⟨_, rfl⟩
  have hj7 : j < 7 := by
    have h1 := Int.fmod_lt_of_pos k (b := 7) (by decide)
    have h2 := Int.fmod_nonneg_of_pos k (b := 7) (by decide)
    omega
  have hq : ∀ j < 7, ∃ q : Nat, q ∈ kinds ∧ ([1, 2, 4, 6, 8, 10, 12] : List Int).getD j 0 = (q : Int) := by
    intro j hj
    match j, hj with
    | 0, _ => exact ⟨1, by decide, rfl⟩
    | 1, _ => exact ⟨2, by decide, rfl⟩
    | 2, _ => exact ⟨4, by decide, rfl⟩
    | 3, _ => exact ⟨6, by decide, rfl⟩
    | 4, _ => exact ⟨8, by decide, rfl⟩
    | 5, _ => exact ⟨10, by decide, rfl⟩
    | 6, _ => exact ⟨12, by decide, rfl⟩
  obtain ⟨q, hqk, hqe⟩ := hq j hj7
  refine ⟨q, (q * 4096 + u.toNat * 64 + l.toNat), hqk, ?_, by omega⟩
  unfold number
  rw [← hj, hqe]
  omega
theorem row_fm {k u l : Int} (hk : 0 ≤ k ∧ k < 64) (hu : 0 ≤ u ∧ u < 64) (hl : 0 ≤ l ∧ l < 64) : Row (fmL (number k u l)) := by
  obtain ⟨q, m, hq, hm, hd⟩ := num_nat hk hu hl
  have h16 := kinds16 hq
  rw [hm, fm_row, hd, Nat.mod_eq_of_lt h16]
  refine ⟨_, _, _, _, _, _, _, _, _, _, _, _, _, ⟨hq, ?_, ?_, ?_, ?_, ?_, ?_, ?_, ?_, ?_, ?_, ?_, ?_⟩, rfl⟩ <;> exact Nat.mod_lt _ (by decide)
theorem back_fm {k u l : Int} (hk : 0 ≤ k ∧ k < 64) (hu : 0 ≤ u ∧ u < 64) (hl : 0 ≤ l ∧ l < 64) : bck (fmL (number k u l)) = number k u l := by
  obtain ⟨q, m, hq, hm, hd⟩ := num_nat hk hu hl
  have h16 := kinds16 hq
  rw [hm, fm_row, hd, Nat.mod_eq_of_lt h16, bck_row ⟨hq, Nat.mod_lt _ (by decide), Nat.mod_lt _ (by decide), Nat.mod_lt _ (by decide), Nat.mod_lt _ (by decide), Nat.mod_lt _ (by decide), Nat.mod_lt _ (by decide), Nat.mod_lt _ (by decide), Nat.mod_lt _ (by decide), Nat.mod_lt _ (by decide), Nat.mod_lt _ (by decide), Nat.mod_lt _ (by decide), Nat.mod_lt _ (by decide)⟩]
  congr 1
  rw [← hd]
  exact bin m
theorem row_len {r : List Nat} (h : Row r) : r.length = 10 := by
  obtain ⟨_, _, _, _, _, _, _, _, _, _, _, _, _, _, rfl⟩ := h; rfl
theorem kch_lst : ∀ q ∈ kinds, Lst (kch q) := by
  unfold Lst; decide
theorem c1_lst {ch b : Nat} (h : Lst ch) : Lst (c1 ch b) := by
  unfold c1; split
  · exact h
  · exact .inl rfl
theorem c3_lst {ch cc b a : Nat} (h : Lst ch) (h' : Lst cc) : Lst (c3 ch cc b a) := by
  unfold c3
  split
  · exact h
  · split
    · exact h'
    · split
      · unfold Lst; decide
      · exact .inl rfl
theorem row_lst {r : List Nat} (h : Row r) : ∀ c ∈ r, Lst c := by
  obtain ⟨q, b8, b7, b6, b11, b5, b4, b3, b10, b2, b1, b0, b9, B, rfl⟩ := h
  have l1 : Lst 114 := by unfold Lst; decide
  have l2 : Lst 119 := by unfold Lst; decide
  have l3 : Lst 115 := by unfold Lst; decide
  have l4 : Lst 83 := by unfold Lst; decide
  have l5 : Lst 116 := by unfold Lst; decide
  have l6 : Lst 84 := by unfold Lst; decide
  intro c hc
  simp only [rowOf, List.mem_cons, List.not_mem_nil, or_false] at hc
  rcases hc with rfl | rfl | rfl | rfl | rfl | rfl | rfl | rfl | rfl | rfl
  · exact kch_lst q B.q
  · exact c1_lst l1
  · exact c1_lst l2
  · exact c3_lst l3 l4
  · exact c1_lst l1
  · exact c1_lst l2
  · exact c3_lst l3 l4
  · exact c1_lst l1
  · exact c1_lst l2
  · exact c3_lst l5 l6
theorem pick1 {P : Nat → Prop} {f : Nat → Nat} {x a b : Nat} (h : x = f a ∨ x = f b) (ha : P a) (hb : P b) : ∃ c, P c ∧ x = f c := by
  rcases h with h | h
  · exact ⟨a, ha, h⟩
  · exact ⟨b, hb, h⟩
theorem pick2 {f : Nat → Nat → Nat} {x a b a' b' : Nat} (h : x = f a b ∨ x = f a' b') (ha : a < 2) (hb : b < 2) (ha' : a' < 2) (hb' : b' < 2) : ∃ c d, c < 2 ∧ d < 2 ∧ x = f c d := by
  rcases h with h | h
  · exact ⟨a, b, ha, hb, h⟩
  · exact ⟨a', b', ha', hb', h⟩
/-- rows whose signs stand, place by place, in one of two rows -/
theorem row_mix {r a b : List Nat} (hr : r.length = 10) (ha : Row a) (hb : Row b) (h : ∀ k < 10, r.getD k 0 = a.getD k 0 ∨ r.getD k 0 = b.getD k 0) : Row r := by
  obtain ⟨q, b8, b7, b6, b11, b5, b4, b3, b10, b2, b1, b0, b9, B, rfl⟩ := ha
  obtain ⟨q', b8', b7', b6', b11', b5', b4', b3', b10', b2', b1', b0', b9', B', rfl⟩ := hb
  match r, hr with
  | [x0, x1, x2, x3, x4, x5, x6, x7, x8, x9], _ =>
    obtain ⟨y0, p0, rfl⟩ := pick1 (P := (· ∈ kinds)) (f := kch) (h 0 (by decide)) B.q B'.q
    obtain ⟨y1, p1, rfl⟩ := pick1 (P := (· < 2)) (f := c1 114) (h 1 (by decide)) B.b8 B'.b8
    obtain ⟨y2, p2, rfl⟩ := pick1 (P := (· < 2)) (f := c1 119) (h 2 (by decide)) B.b7 B'.b7
    obtain ⟨y3, z3, p3, w3, rfl⟩ := pick2 (f := c3 115 83) (h 3 (by decide)) B.b6 B.b11 B'.b6 B'.b11
    obtain ⟨y4, p4, rfl⟩ := pick1 (P := (· < 2)) (f := c1 114) (h 4 (by decide)) B.b5 B'.b5
    obtain ⟨y5, p5, rfl⟩ := pick1 (P := (· < 2)) (f := c1 119) (h 5 (by decide)) B.b4 B'.b4
    obtain ⟨y6, z6, p6, w6, rfl⟩ := pick2 (f := c3 115 83) (h 6 (by decide)) B.b3 B.b10 B'.b3 B'.b10
    obtain ⟨y7, p7, rfl⟩ := pick1 (P := (· < 2)) (f := c1 114) (h 7 (by decide)) B.b2 B'.b2
    obtain ⟨y8, p8, rfl⟩ := pick1 (P := (· < 2)) (f := c1 119) (h 8 (by decide)) B.b1 B'.b1
    obtain ⟨y9, z9, p9, w9, rfl⟩ := pick2 (f := c3 116 84) (h 9 (by decide)) B.b0 B.b9 B'.b0 B'.b9
    exact ⟨_, _, _, _, _, _, _, _, _, _, _, _, _, ⟨p0, p1, p2, p3, w3, p4, p5, p6, w6, p7, p8, p9, w9⟩, rfl⟩
end Mine

-- P3
namespace Mine
theorem topOff_P3 : True := by
  w_top off
  trivial
end Mine
namespace Mine
open PySem PySem.W PyProof.Rows PySem.Calls PySem.Spec
/-- a pattern's signs over two rows -/
structure Sig (a b k : List Nat) : Prop where
  len : k.length = 10
  at_ : ∀ i < 10, k.getD i 0 = 63 ∨ k.getD i 0 = a.getD i 0 ∨ k.getD i 0 = b.getD i 0
theorem getD_range {f : Nat → Nat} {i : Nat} (h : i < 10) : ((List.range 10).map f).getD i 0 = f i := by
  simp [List.getD, h]
theorem sgn_len (x : Str) (low high : Int) : (sgn x low high).length = 10 := by simp [sgn]
theorem sgn_sig {a b x : List Nat} {low high : Int} (h : x = a ∨ x = b) : Sig a b (sgn (tx x) low high) := by
  refine ⟨sgn_len _ _ _, fun i hi => ?_⟩
  rw [sgn, getD_range hi]
  have e : (tx x).cps.getD i 0 = x.getD i 0 := by simp [tx, List.getD]
  rw [e]
  split
  · rcases h with rfl | rfl
    · exact .inr (.inl rfl)
    · exact .inr (.inr rfl)
  · exact .inl rfl
theorem ovr_len (a b g : List Nat) : (ovr a b g).length = 10 := by simp [ovr]
theorem ovr_at {a b g : List Nat} {i : Nat} (h : i < 10) : (ovr a b g).getD i 0 = if a.getD i 0 ≠ 63 then a.getD i 0 else if b.getD i 0 ≠ 63 then b.getD i 0 else g.getD i 0 := by
  rw [ovr, getD_range h]
theorem row_all {r : List Nat} (h : Row r) : r.all (· < 128) = true := by
  rw [List.all_eq_true]
  intro c hc
  have := row_lst h c hc
  unfold Lst at this
  exact decide_eq_true (by omega)
theorem row_ne63 {r : List Nat} (h : Row r) {i : Nat} (hi : i < 10) : r.getD i 0 ≠ 63 := by
  have hl := row_len h
  have hm : r.getD i 0 ∈ r := by
    rw [List.getD_eq_getElem?_getD, List.getElem?_eq_getElem (by omega)]; exact List.getElem_mem _
  have := row_lst h _ hm
  unfold Lst at this
  omega
theorem sig_lst {a b k : List Nat} (ha : Row a) (hb : Row b) (h : Sig a b k) : ∀ c ∈ k, Lst c ∨ c = 63 := by
  intro c hc
  obtain ⟨i, hi, rfl⟩ := List.mem_iff_getElem.mp hc
  have hi' : i < 10 := h.len ▸ hi
  have e : k[i] = k.getD i 0 := by simp [List.getD, List.getElem?_eq_getElem hi]
  rw [e]
  have mem : ∀ {r : List Nat}, Row r → Lst (r.getD i 0) := fun {r} hr => row_lst hr _ (by
    have hl := row_len hr
    rw [List.getD_eq_getElem?_getD, List.getElem?_eq_getElem (by omega)]; exact List.getElem_mem _)
  rcases h.at_ i hi' with q | q | q
  · exact .inr q
  · exact .inl (q ▸ mem ha)
  · exact .inl (q ▸ mem hb)
theorem ovr_mix {a b k l : List Nat} (hk : Sig a b k) (hl : Sig a b l) {g : List Nat} (hg : ∀ i < 10, g.getD i 0 = a.getD i 0 ∨ g.getD i 0 = b.getD i 0) : ∀ i < 10, (ovr k l g).getD i 0 = a.getD i 0 ∨ (ovr k l g).getD i 0 = b.getD i 0 := by
  intro i hi
  rw [ovr_at hi]
  split
  · next h => exact (hk.at_ i hi).resolve_left h
  · split
    · next h => exact (hl.at_ i hi).resolve_left h
    · exact hg i hi
/-- the middle signs of three rows -/
def thr (x y z : List Nat) : List Nat := (List.range 10).map fun k => med (x.getD k 0) (y.getD k 0) (z.getD k 0)
theorem thr_len (x y z : List Nat) : (thr x y z).length = 10 := by simp [thr]
theorem thr_at {x y z : List Nat} {i : Nat} (h : i < 10) : (thr x y z).getD i 0 = med (x.getD i 0) (y.getD i 0) (z.getD i 0) := by
  rw [thr, getD_range h]
theorem med_one {a b x y z : Nat} (hx : x = a ∨ x = b) (hy : y = a ∨ y = b) (hz : z = a ∨ z = b) : med x y z = a ∨ med x y z = b := by
  unfold med; omega
theorem thr_mix {a b x y z : List Nat} (hx : ∀ i < 10, x.getD i 0 = a.getD i 0 ∨ x.getD i 0 = b.getD i 0) (hy : ∀ i < 10, y.getD i 0 = a.getD i 0 ∨ y.getD i 0 = b.getD i 0)
    (hz : ∀ i < 10, z.getD i 0 = a.getD i 0 ∨ z.getD i 0 = b.getD i 0) : ∀ i < 10, (thr x y z).getD i 0 = a.getD i 0 ∨ (thr x y z).getD i 0 = b.getD i 0 := by
  intro i hi
  rw [thr_at hi]
  exact med_one (hx i hi) (hy i hi) (hz i hi)
theorem tak_iff {k r : List Nat} : tak k r = true ↔ ∀ i < 10, k.getD i 0 ≠ 63 → k.getD i 0 = r.getD i 0 := by
  unfold tak
  rw [beq_iff_eq, List.filter_eq_nil_iff]
  simp only [List.mem_range, Bool.and_eq_true, bne_iff_ne, ne_eq, not_and, Decidable.not_not]
theorem list_ext10 {x y : List Nat} (hx : x.length = 10) (hy : y.length = 10) (h : ∀ i < 10, x.getD i 0 = y.getD i 0) : x = y := by
  refine List.ext_getElem (by omega) fun i h1 h2 => ?_
  have := h i (by omega)
  simpa [List.getD, List.getElem?_eq_getElem h1, List.getElem?_eq_getElem h2] using this
/-- the highest listing of the three middle ones -/
def topL (k0 k1 k2 k3 g : List Nat) : List Nat :=
  thr (thr (ovr k0 k1 g) (ovr k0 k2 g) (ovr k1 k2 g)) (thr (ovr k0 k1 g) (ovr k0 k3 g) (ovr k1 k3 g)) (thr (ovr k0 k2 g) (ovr k0 k3 g) (ovr k2 k3 g))
theorem top_row {a b k0 k1 k2 k3 : List Nat} (ha : Row a) (hb : Row b) (h0 : Sig a b k0) (h1 : Sig a b k1) (h2 : Sig a b k2) (h3 : Sig a b k3) : Row (topL k0 k1 k2 k3 b) := by
  have hg : ∀ i < 10, b.getD i 0 = a.getD i 0 ∨ b.getD i 0 = b.getD i 0 := fun _ _ => .inr rfl
  exact row_mix (thr_len _ _ _) ha hb (thr_mix (thr_mix (ovr_mix h0 h1 hg) (ovr_mix h0 h2 hg) (ovr_mix h1 h2 hg)) (thr_mix (ovr_mix h0 h1 hg) (ovr_mix h0 h3 hg) (ovr_mix h1 h3 hg)) (thr_mix (ovr_mix h0 h2 hg) (ovr_mix h0 h3 hg) (ovr_mix h2 h3 hg)))
/-- two patterns share a listing if the latter takes the signs laid over each other -/
theorem share_iff {k l g : List Nat} : tak l (ovr k l g) = true ↔ ∀ i < 10, k.getD i 0 ≠ 63 → l.getD i 0 ≠ 63 → k.getD i 0 = l.getD i 0 := by
  rw [tak_iff]
  constructor
  · intro h i hi hk hl
    have := h i hi hl
    rw [ovr_at hi, if_pos hk] at this
    exact this.symm
  · intro h i hi hl
    rw [ovr_at hi]
    by_cases hk : k.getD i 0 ≠ 63
    · rw [if_pos hk]; exact (h i hi hk hl).symm
    · rw [if_neg hk, if_pos hl]
theorem helly1 {a b c d g : Nat} (ab : a ≠ 63 → b ≠ 63 → a = b) (ac : a ≠ 63 → c ≠ 63 → a = c) (ad : a ≠ 63 → d ≠ 63 → a = d) (bc : b ≠ 63 → c ≠ 63 → b = c) (bd : b ≠ 63 → d ≠ 63 → b = d) (cd : c ≠ 63 → d ≠ 63 → c = d)
    {o : Nat → Nat → Nat} (ho : ∀ x y, o x y = if x ≠ 63 then x else if y ≠ 63 then y else g) :
    med (med (o a b) (o a c) (o b c)) (med (o a b) (o a d) (o b d)) (med (o a c) (o a d) (o c d)) = if a ≠ 63 then a else if b ≠ 63 then b else if c ≠ 63 then c else if d ≠ 63 then d else g := by
  have m1 : ∀ x y, med x x y = x := fun x y => by unfold med; omega
  have m2 : ∀ x y, med x y x = x := fun x y => by unfold med; omega
  have m3 : ∀ x y, med y x x = x := fun x y => by unfold med; omega
  by_cases ha : a = 63 <;> by_cases hb : b = 63 <;> by_cases hc : c = 63 <;> by_cases hd : d = 63 <;> simp only [ho, ha, hb, hc, hd, ne_eq, not_true_eq_false, not_false_eq_true, if_true, if_false, m1, m2, m3]
  all_goals first
    | (have := ab ha hb; subst this)
    | skip
  all_goals first
    | (have := ac ha hc; subst this)
    | skip
  all_goals first
    | (have := ad ha hd; subst this)
    | skip
  all_goals first
    | (have := bc hb hc; subst this)
    | skip
  all_goals first
    | (have := bd hb hd; subst this)
    | skip
  all_goals first
    | (have := cd hc hd; subst this)
    | skip
  all_goals simp only [m1, m2, m3]
theorem helly {k0 k1 k2 k3 g : List Nat} (ab : tak k1 (ovr k0 k1 g) = true) (ac : tak k2 (ovr k0 k2 g) = true) (ad : tak k3 (ovr k0 k3 g) = true) (bc : tak k2 (ovr k1 k2 g) = true) (bd : tak k3 (ovr k1 k3 g) = true) (cd : tak k3 (ovr k2 k3 g) = true) :
    topL k0 k1 k2 k3 g = ovr k0 k1 (ovr k2 k3 g) := by
  rw [share_iff] at ab ac ad bc bd cd
  refine list_ext10 (thr_len _ _ _) (ovr_len _ _ _) fun i hi => ?_
  rw [topL, thr_at hi, thr_at hi, thr_at hi, thr_at hi, ovr_at hi, ovr_at hi, ovr_at hi, ovr_at hi, ovr_at hi, ovr_at hi, ovr_at hi, ovr_at hi]
  exact helly1 (ab i hi) (ac i hi) (ad i hi) (bc i hi) (bd i hi) (cd i hi) (o := fun x y => if x ≠ 63 then x else if y ≠ 63 then y else g.getD i 0) fun _ _ => rfl
theorem apart {k l g t : List Nat} (h : tak l (ovr k l g) = false) : tak k t = false ∨ tak l t = false := by
  cases hk : tak k t with
  | false => exact .inl rfl
  | true =>
    cases hl : tak l t with
    | false => exact .inr rfl
    | true =>
      rw [tak_iff] at hk hl
      have : tak l (ovr k l g) = true := share_iff.mpr fun i hi h1 h2 => (hk i hi h1).trans (hl i hi h2).symm
      rw [this] at h; cases h
end Mine

-- P4
namespace Mine
theorem topOff_P4 : True := by
  w_top off
  trivial
end Mine
namespace Mine
open PySem PySem.W PyProof.Rows PySem.Calls PySem.Spec
theorem tw_mem {p : Nat → Bool} : ∀ {l : List Nat} {x : Nat}, x ∈ l.takeWhile p → p x = true
  | [], _, h => by simp at h
  | y :: r, x, h => by
    rw [List.takeWhile_cons] at h
    split at h
    · next hy =>
      rcases List.mem_cons.mp h with rfl | h
      · exact hy
      · exact tw_mem h
    · simp at h
theorem tw_take {p : Nat → Bool} : ∀ l : List Nat, l.take (l.takeWhile p).length = l.takeWhile p
  | [] => rfl
  | y :: r => by
    rw [List.takeWhile_cons]
    split
    · simp [tw_take r]
    · rfl
theorem bare_rest (a : List Nat) : a = bare a ++ List.replicate (a.length - (bare a).length) 63 := by
  obtain ⟨n, hn⟩ : ∃ n, n = (a.reverse.takeWhile (· == 63)).length := ⟨_, rfl⟩
  have hle : n ≤ a.length := by
    rw [hn]
    have := (List.takeWhile_sublist (p := fun x : Nat => x == 63) (l := a.reverse)).length_le
    simpa using this
  have hb : bare a = a.take (a.length - n) := by rw [bare, hn]
  have hbl : (bare a).length = a.length - n := by rw [hb, List.length_take]; omega
  have hd : a.drop (a.length - n) = List.replicate n 63 := by
    have h1 : a.drop (a.length - n) = (a.reverse.take n).reverse := by
      rw [List.take_reverse, List.reverse_reverse]
    rw [h1, hn, tw_take, List.eq_replicate_iff]
    refine ⟨by simp, fun x hx => ?_⟩
    have := tw_mem (List.mem_reverse.mp hx)
    simpa using this
  have : a.length - (bare a).length = n := by omega
  rw [this, ← hd, hb]
  exact (List.take_append_drop _ _).symm
structure PatAs (a b : List Nat) (fl : Bool) : Prop where
  pat : pat a = b ++ sg fl
  ok : PatOk (b ++ sg fl)
  no42 : 42 ∉ b
  len : b.length ≤ 10
  lst : ∀ c ∈ b, Lst c ∨ c = 63
  back : (b ++ if fl then List.replicate (10 - b.length) 63 else []) = a
theorem pat_as {a : List Nat} (ha : a.length = 10) (hl : ∀ c ∈ a, Lst c ∨ c = 63) : ∃ b fl, PatAs a b fl := by
  have hr := bare_rest a
  have hlb : ∀ c ∈ bare a, Lst c ∨ c = 63 := fun c hc => hl c (by rw [hr]; exact List.mem_append_left _ hc)
  have h42 : 42 ∉ bare a := fun h => by
    rcases hlb _ h with h | h
    · exact h.ne42 rfl
    · exact absurd h (by decide)
  have hle : (bare a).length ≤ 10 := by
    have := congrArg List.length hr
    rw [List.length_append] at this
    omega
  by_cases e : bare a = a
  · exact ⟨bare a, false, by rw [pat, if_pos e, e]; simp [sg], ⟨bare a, hlb, .inl (by simp [sg]), hle⟩, h42, hle, hlb, by simpa using e⟩
  · exact ⟨bare a, true, by rw [pat, if_neg e]; rfl, ⟨bare a, hlb, .inr rfl, hle⟩, h42, hle, hlb, by rw [← ha]; simpa using hr.symm⟩

/-- the numbers that stand in for lacking ones -/
def dflt : List Int := [2, 39, 41, 4, 10, 52, 3, 0, 12, 8, 48, 48, 0, 7]
def drw (ns : List Int) : List Int := (ns.take 14).map fun x => x.fmod 64
def nms (ns : List Int) : List Int := drw ns ++ dflt.drop (drw ns).length
theorem drw_len (ns : List Int) : (drw ns).length = min 14 ns.length := by simp [drw]
theorem nms_len (ns : List Int) : (nms ns).length = 14 := by
  have := drw_len ns
  rw [nms, List.length_append, List.length_drop]
  have : dflt.length = 14 := rfl
  omega
theorem nms_mem (ns : List Int) : ∀ x ∈ nms ns, 0 ≤ x ∧ x < 64 := by
  intro x hx
  rcases List.mem_append.mp hx with h | h
  · obtain ⟨y, _, rfl⟩ := List.mem_map.mp h
    exact ⟨Int.fmod_nonneg_of_pos _ (by decide), Int.fmod_lt_of_pos _ (by decide)⟩
  · have : ∀ x ∈ dflt, 0 ≤ x ∧ x < 64 := by decide
    exact this x (List.mem_of_mem_drop h)
theorem nms_at (ns : List Int) {i : Nat} (h : i < 14) : (nms ns)[i]? = some ((nms ns).getD i 0) ∧ 0 ≤ (nms ns).getD i 0 ∧ (nms ns).getD i 0 < 64 := by
  have hl := nms_len ns
  have e : (nms ns)[i]? = some ((nms ns)[i]'(by omega)) := List.getElem?_eq_getElem (by omega)
  rw [List.getD_eq_getElem?_getD, e]
  exact ⟨rfl, nms_mem ns _ (List.getElem_mem _)⟩
end Mine

-- R3
namespace Mine
theorem topOff_R3 : True := by
  w_top off
  trivial
end Mine
namespace Mine
open PySem PySem.W PyProof.Rows PySem.Calls PySem.Spec
/-- lists of one-sign texts, new over a heap and off the given addresses -/
inductive LL (h0 : Heap) (B : List Addr) (h : Heap) : List Value → List (List Nat) → Prop
  | nil : LL h0 B h [] []
  | cons {a : Addr} {vs ys : List Value} {l : List Nat} {ls : List (List Nat)} : h0.get? a = none → a ∉ B → h.IsList a (List.toArray vs) → StrsAre vs (l.map fun c => tx [c]) → LL h0 B h ys ls → LL h0 B h (.ref a :: ys) (l :: ls)
section
variable {h0 : Heap} {B : List Addr} {h : Heap} {ys : List Value} {ls : List (List Nat)}
theorem LL.keep {h' : Heap} (x : LL h0 B h ys ls) (k : ∀ b o, b ∉ B → h.get? b = some o → h'.get? b = some o) : LL h0 B h' ys ls := by
  induction x with
  | nil => exact .nil
  | cons z a b c _ ih => exact .cons z a (b.at fun o e => k _ o a e) c ih
theorem LL.sub {B' : List Addr} (x : LL h0 B h ys ls) (s : ∀ b ∈ B', b ∈ B) : LL h0 B' h ys ls := by
  induction x with
  | nil => exact .nil
  | cons z a b c _ ih => exact .cons z (fun q => a (s _ q)) b c ih
theorem LL.snoc {a : Addr} {vs : List Value} {l : List Nat} (x : LL h0 B h ys ls) (z : h0.get? a = none) (ha : a ∉ B) (hl : h.IsList a (List.toArray vs)) (hS : StrsAre vs (l.map fun c => tx [c])) : LL h0 B h (ys ++ [.ref a]) (ls ++ [l]) := by
  induction x with
  | nil => exact .cons z ha hl hS .nil
  | cons y p q r _ ih => exact .cons y p q r ih
theorem LL.next {l : List (List Nat)} {i : Nat} {a : Addr} {vs : List Value} {x : List Nat} (y : LL h0 B h ys (l.take i)) (hi : i < l.length) (hx : x = l.getD i []) (z : h0.get? a = none) (ha : a ∉ B) (hl : h.IsList a (List.toArray vs)) (hS : StrsAre vs (x.map fun c => tx [c])) :
    LL h0 B h (ys ++ [.ref a]) (l.take (i + 1)) := by
  rw [List.take_add_one, List.getElem?_eq_getElem hi]
  have e : l[i] = x := by rw [hx]; simp [List.getD, List.getElem?_eq_getElem hi]
  rw [e]
  exact y.snoc z ha hl hS
theorem LL.len (x : LL h0 B h ys ls) : ys.length = ls.length := by
  induction x with
  | nil => rfl
  | cons _ _ _ _ _ ih => simp [ih]
theorem LL.get (x : LL h0 B h ys ls) : ∀ {i : Nat}, i < ls.length → ∃ a vs, ys[i]? = some (.ref a) ∧ h.IsList a (List.toArray vs) ∧ StrsAre vs ((ls.getD i []).map fun c => tx [c]) := by
  induction x with
  | nil => intro i hi; simp at hi
  | cons _ _ b c _ ih =>
    intro i hi
    cases i with
    | zero => exact ⟨_, _, rfl, b, c⟩
    | succ i => exact ih (by simpa using hi)
end
section
variable {prog : Program} {w : World} {A : Around} {E : Value → Shared → Prop} {s : Shared} {env : Env}

/-- what is asked behind a comprehension's loop, ahead of the store -/
def StQ (env : Env) (y : Str) (Q : Flow → Shared → Prop) (C : Addr) (v : Value) (s' : Shared) : Prop :=
  ∃ m, s'.heap.Ns env.locals m ∧ C ≠ env.locals ∧ ∀ h'' tk'', h''.Ns env.locals (fun z => if z = y then some v else m z) → (∀ b o, b ≠ env.locals → b ≠ C → s'.heap.get? b = some o → h''.get? b = some o) → Q .next { s' with heap := h'', toks := tk'' }
/-- a comprehension stored under a local name -/
theorem comp_assign {target elt iter : Expr} {ifs : List Expr} {scope : Scope} {pos spos py : Pos} {y : Str} {cl : List (Str × Addr)} {Q : Flow → Shared → Prop}
    (hsw : swapsWith (.ListComp elt [⟨target, iter, ifs, 0⟩] scope pos) (some (.Name y py)) spos.line env = pure true)
    (hclos : closureFor scope env = pure cl) (hcell : ∀ y ∈ scope.names, y.2 ≠ .cell) (hkind : scope.kind = .function)
    (hnames : ∀ y ∈ scope.names, y.2 = .local → scope.names.lookup y.1 = some .local)
    (hs : ∀ x, foldedSetIterable iter env x = pure x)
    (hy : env.kindOf y = some .local) (hp : (env.scope.kind == .class || (env.scope.kind == .module && env.locals != env.globals)) = false)
    (h : wpAny (model prog w) A (eval iter env) (fun xv s₁ => wpAny (model prog w) A (pyIter xv) (fun it s₂ => CompAtC prog w A env target elt ifs scope cl
      (StQ env y Q) it s₂) E s₁) E s) :
    wpAny (model prog w) A (exec (.Assign [.Name y py] (.ListComp elt [⟨target, iter, ifs, 0⟩] scope pos) spos) env) Q E s := by
  rw [exec_Assign_Name_used _ _ _ _ hsw]
  refine wpAny_bind (wpAny_standAt (wpAny_bind ?_))
  show wpAny _ A (do let _ ← comprehension (.ListComp elt [⟨target, iter, ifs, 0⟩] scope pos) scope env _ (newList []) false (eval iter env) (some (assign (.Name y py) env))) _ _ s
  refine wpAny_bind (wpAny_mono (wpAny_comprehension_free (use := some (assign (.Name y py) env)) (Q := fun _ s' => Q .next s') rfl hs hclos hkind hnames
    (wpAny_mono h (fun xv s₁ h₁ => wpAny_mono h₁ (fun it s₂ h₂ => ?_) fun _ _ e => e) fun _ _ e => e)) (fun _ s' hq => wpAny_pure (wpAny_pure hq)) fun _ _ e => e)
  obtain ⟨I, fp, wr, n, P, Md, St, rfl, W, self, hsz, hfp, hst, hJ⟩ := h₂
  refine wpAny_newObj_type (wpAny_newFunctionEnv hcell (by intro y hy; simp at hy) (fun h₁ hns₁ hsb₁ => ?_) hkind)
  dsimp only at hns₁ hsb₁ ⊢
  generalize hH2 : s₂.heap.push { cls := .type "list", dict := none, data := .seq ([] : List Value).toArray } = H2 at hns₁ hsb₁ ⊢
  have hC : H2.objs.size = s₂.heap.objs.size + 1 := by rw [← hH2, Heap.size_push]
  have hDC : s₂.heap.objs.size ≠ H2.objs.size := by rw [hC]; exact Nat.ne_of_lt (Nat.lt_succ_self _)
  have hCle : s₂.heap.objs.size ≤ H2.objs.size := by rw [hC]; exact Nat.le_succ _
  have old : ∀ b o, s₂.heap.get? b = some o → h₁.get? b = some o := fun b o e => hsb₁.extBut b o (by rw [hC]; exact Nat.ne_of_lt (Nat.lt_succ_of_lt (Heap.lt_size e))) (Heap.get?_push_of_some _ (hH2 ▸ Heap.get?_push_of_some _ e))
  have hacc : h₁.PlainList s₂.heap.objs.size #[] := ⟨_, hsb₁.extBut _ _ hDC (Heap.get?_push_of_some _ (hH2 ▸ Heap.get?_push_size _ rfl))⟩
  obtain ⟨J, hJ0, stab, turn, hQ⟩ := hJ H2.objs.size s₂.heap.objs.size hCle (Nat.le_refl _) hDC
  have loop : ∀ s₃ : Shared, s₃ = { s₂ with heap := h₁, toks := s₂.toks + ([] : List (Str × Value)).length } →
      codeAny (model prog w) A (.compLoop (.ListComp elt [⟨target, iter, ifs, 0⟩] scope pos) 0 (.ref I) (.ref s₂.heap.objs.size) (compEnvC scope cl H2.objs.size env))
        (compPost (model prog w) A E (some (assign (.Name y py) env)) (fun _ s' => Q .next s') (.ref s₂.heap.objs.size) H2.objs.size) s₃ := by
    rintro s₃ rfl
    refine comp_loop W hsz J [] (fun _ h => nomatch h) hCle (Nat.le_refl _) hDC hfp (W.frame _ _ _ hst fun b _ o e => old b o e) hacc hns₁ old (hJ0 _ old) stab turn fun h' tk' m' ys hn hl hJn hk => ?_
    obtain ⟨m, hm, hCL, hq⟩ := hQ h' tk' ys hl hJn hk
    show wpAny _ A (assign (.Name y py) env (.ref _)) _ _ _
    refine wpAny_assign_Name (wpAny_storeName_local hy hm (fun h₂ hn₂ hs₂ => ?_) hp)
    refine ⟨m', hn.sameBut hs₂ hCL, fun h₃ hs₃ => ?_⟩
    exact hq h₃ _ (hn₂.sameBut hs₃ hCL.symm) fun b o hbL hbC e => hs₃.extBut b o hbC (hs₂.extBut b o hbL e)
  exact codeAny_compStart_list (loop _ rfl) (self _ _ _ (W.frame _ _ _ hst fun b _ o e => old b o e) (loop _ rfl))

/-- what a comprehension's turn asks behind its assignment -/
def VTurnJ (prog : Program) (w : World) (A : Around) (cenv : Env) (elt : Expr) (ifs : List Expr) (s₃ : Shared) (Gn : Heap → Prop) (Gy : Value → Heap → Prop) : Prop :=
  wpAny (model prog w) A (forIn ifs true fun c r => if r = true then do let ok ← isTrue c cenv (eval c cenv); pure (ForInStep.yield ok) else pure (ForInStep.yield r)) (fun ok s₅ =>
      if ok = true then wpAny (model prog w) A (eval elt cenv) (fun y s₆ => Gy y s₆.heap ∧ Keeps s₃ s₆) (fun _ _ => False) s₅ else Gn s₅.heap ∧ Keeps s₃ s₅) (fun _ _ => False) s₃

theorem cturn_of {target elt : Expr} {ifs : List Expr} {cenv : Env} {C : Addr} {Xs : List Addr} {s₂ : Shared} {h₃ : Heap} {tk₃ : Nat} {v : Value} {Jn : Heap → Prop} {Jy : Value → Heap → Prop}
    (h : wpAny (model prog w) A (assign target cenv v) (fun _ s₄ => ∃ h₄ tk₄ m₄, s₄ = { s₂ with heap := h₄, toks := tk₄ } ∧ h₄.Ns C m₄ ∧ (∀ b o, b ≠ C → b ∉ Xs → h₃.get? b = some o → h₄.get? b = some o) ∧
      VTurnJ prog w A cenv elt ifs s₄ Jn Jy) (fun _ _ => False) { s₂ with heap := h₃, toks := tk₃ }) :
    CTurn prog w A cenv target elt ifs C Xs s₂ h₃ tk₃ v Jn Jy := by
  refine wpAny_mono h (fun _ s₄ h₄ => ?_) fun _ _ e => e
  obtain ⟨h₄, tk₄, m₄, rfl, hn₄, k4, ht⟩ := h₄
  refine wpAny_mono ht (fun ok s₅ h₅ => ?_) fun _ _ e => e
  cases ok with
  | false =>
    obtain ⟨hg, h', tk', rfl, hk⟩ := h₅
    exact ⟨h', tk', m₄, rfl, fun b o hb hx e => hk b o (k4 b o hb hx e), hn₄.keeps hk, hg⟩
  | true =>
    refine wpAny_mono h₅ (fun y s₆ h₆ => ?_) fun _ _ e => e
    obtain ⟨hg, h', tk', rfl, hk⟩ := h₆
    exact ⟨h', tk', m₄, rfl, fun b o hb hx e => hk b o (k4 b o hb hx e), hn₄.keeps hk, hg⟩

/-- how a target takes an item -/
def Binds (prog : Program) (w : World) (A : Around) (target : Expr) (cenv : Env) (C : Addr) (s : Shared) (v : Value) (MM : (Str → Option Value) → Prop) : Prop :=
  ∀ h₃ tk₃ m₃ (Q' : Unit → Shared → Prop), h₃.Ns C m₃ → Kp s.heap h₃ →
    (∀ h₄ tk₄ m₄, h₄.Ns C m₄ → MM m₄ → (∀ b o, b ≠ C → h₃.get? b = some o → h₄.get? b = some o) → Q' () { s with heap := h₄, toks := tk₄ }) →
    wpAny (model prog w) A (assign target cenv v) Q' (fun _ _ => False) { s with heap := h₃, toks := tk₃ }

theorem comp_core {target elt : Expr} {ifs : List Expr} {scope : Scope} {cl : List (Str × Addr)} {Q : Addr → Value → Shared → Prop} {oI : Obj} {fp : List Addr} {n : Nat} {P Md : Nat → Value → Heap → Prop} {St : Nat → Heap → Prop}
    (W : KTurns prog w A target s.heap.objs.size fp [s.heap.objs.size] n P Md St) (hI : ∀ i h, St i h → ∃ o, h.get? s.heap.objs.size = some o)
    (self : ∀ (s' : Shared) (Q : Value → Shared → Prop) (E : Value → Shared → Prop), St 0 s'.heap → Q (.ref s.heap.objs.size) s' → wpAny (model prog w) A (pyIter (.ref s.heap.objs.size)) Q E s')
    (hn : n ≤ 1000) (hfp : ∀ b ∈ fp, b < s.heap.objs.size + 1) (hst : St 0 (s.heap.push oI)) (MM : Nat → (Str → Option Value) → Prop) (J : List Addr → Nat → List Value → Heap → Prop) (Bx : List Addr) (hBx : ∀ b ∈ Bx, ∃ o, s.heap.get? b = some o)
    (bind : ∀ i v C h, i < n → P i v h → s.heap.objs.size < C → Binds prog w A target (compEnvC scope cl C env) C s v (MM i))
    (h0 : ∀ B h, J B 0 [] h)
    (stab : ∀ B i ys h h', (∀ b o, b ∉ B → h.get? b = some o → h'.get? b = some o) → J B i ys h → J B i ys h')
    (turn : ∀ B i ys C h₃ tk₃ m₃, i < n → J B i ys h₃ → s.heap.objs.size ≤ C → (∀ b ∈ B, ∃ o, h₃.get? b = some o) → h₃.Ns C m₃ → MM i m₃ → Kp s.heap h₃ →
      VTurnJ prog w A (compEnvC scope cl C env) elt ifs { s with heap := h₃, toks := tk₃ } (J B (i + 1) ys) (fun y => J B (i + 1) (ys ++ [y])))
    (done : ∀ B C D h' tk' ys, C ∈ B → (∀ b ∈ Bx, b ∈ B) → J B n ys h' → s.heap.objs.size ≤ C → s.heap.objs.size ≤ D → D ≠ C → h'.PlainList D (List.toArray ys) → Kp s.heap h' → Q C (.ref D) { s with heap := h', toks := tk' }) :
    CompAtC prog w A env target elt ifs scope cl Q (.ref s.heap.objs.size) { s with heap := s.heap.push oI } := by
  have hsz : (s.heap.push oI).objs.size = s.heap.objs.size + 1 := Heap.size_push ..
  have notI : ∀ b o, s.heap.get? b = some o → b ∉ [s.heap.objs.size] := fun b o e hm => by
    rw [List.mem_singleton.mp hm] at e; exact Nat.lt_irrefl _ (Heap.lt_size e)
  refine ⟨s.heap.objs.size, fp, _, n, P, Md, St, rfl, W, self, Nat.le_trans hn (by decide), fun b hb => by rw [hsz]; exact hfp b hb, hst, fun C D hC hD hDC => ?_⟩
  dsimp only at hC hD
  rw [hsz] at hC hD
  have hC' : s.heap.objs.size ≤ C := Nat.le_of_lt hC
  refine ⟨fun i ys h => J (s.heap.objs.size :: C :: D :: Bx) i ys h, fun h _ => h0 _ h, fun i ys h h' hk => stab _ _ _ _ _ fun b o hb e => ?_, ?_, ?_⟩
  · simp only [List.mem_cons, not_or] at hb
    exact hk b o (by simp [hb.1]) hb.2.1 hb.2.2.1 e
  · intro i ys v h₃ tk₃ m₃ hi hP hst₃ hJ hns hlD hk
    refine cturn_of (bind i v C h₃ hi hP hC h₃ tk₃ m₃ _ hns (fun b o e => hk b o (notI b o e) (Heap.get?_push_of_some _ e)) fun h₄ tk₄ m₄ hn₄ hMM k4 => ?_)
    refine ⟨h₄, tk₄, m₄, rfl, hn₄, fun b o hb _ e => k4 b o hb e, turn _ i ys C h₄ tk₄ m₄ hi (stab _ _ _ _ _ (fun b o hb e => k4 b o (fun q => hb (by simp [q])) e) hJ) hC' ?_ hn₄ hMM ?_⟩
    · intro b hb
      simp only [List.mem_cons] at hb
      rcases hb with rfl | rfl | rfl | hb
      · obtain ⟨o, ho⟩ := hI _ _ hst₃
        exact ⟨o, k4 _ o (Nat.ne_of_lt hC) ho⟩
      · obtain ⟨o, _, _, ho, _⟩ := hn₄; exact ⟨o, ho⟩
      · obtain ⟨nn, ho⟩ := hlD; exact ⟨_, k4 _ _ hDC ho⟩
      · obtain ⟨o, ho⟩ := hBx b hb
        exact ⟨o, k4 _ o (Nat.ne_of_lt (Nat.lt_of_lt_of_le (Heap.lt_size ho) hC')) (hk b o (notI b o ho) (Heap.get?_push_of_some _ ho))⟩
    · exact fun b o e => k4 b o (Nat.ne_of_lt (Nat.lt_of_lt_of_le (Heap.lt_size e) hC')) (hk b o (notI b o e) (Heap.get?_push_of_some _ e))
  · intro h' tk' ys hl hJ hk
    exact done _ C D h' tk' ys (by simp) (fun b hb => by simp [hb]) hJ hC' (Nat.le_of_lt hD) hDC hl fun b o e => hk b o (notI b o e) (Heap.get?_push_of_some _ e)

/-- a comprehension over a list -/
theorem comp_listC {target elt : Expr} {ifs : List Expr} {scope : Scope} {cl : List (Str × Addr)} {Q : Addr → Value → Shared → Prop} {l : Addr} {items : Array Value}
    (MM : Nat → (Str → Option Value) → Prop) (J : List Addr → Nat → List Value → Heap → Prop) (Bx : List Addr) (hBx : ∀ b ∈ Bx, ∃ o, s.heap.get? b = some o)
    (hh : A.handled = none) (hl : s.heap.IsList l items) (hn : items.size ≤ 1000)
    (bind : ∀ i v C, items[i]? = some v → s.heap.objs.size < C → Binds prog w A target (compEnvC scope cl C env) C s v (MM i))
    (h0 : ∀ B h, J B 0 [] h)
    (stab : ∀ B i ys h h', (∀ b o, b ∉ B → h.get? b = some o → h'.get? b = some o) → J B i ys h → J B i ys h')
    (turn : ∀ B i ys C h₃ tk₃ m₃, i < items.size → J B i ys h₃ → s.heap.objs.size ≤ C → (∀ b ∈ B, ∃ o, h₃.get? b = some o) → h₃.Ns C m₃ → MM i m₃ → Kp s.heap h₃ →
      VTurnJ prog w A (compEnvC scope cl C env) elt ifs { s with heap := h₃, toks := tk₃ } (J B (i + 1) ys) (fun y => J B (i + 1) (ys ++ [y])))
    (done : ∀ B C D h' tk' ys, C ∈ B → (∀ b ∈ Bx, b ∈ B) → J B items.size ys h' → s.heap.objs.size ≤ C → s.heap.objs.size ≤ D → D ≠ C → h'.PlainList D (List.toArray ys) → Kp s.heap h' → Q C (.ref D) { s with heap := h', toks := tk' }) :
    wpAny (model prog w) A (pyIter (.ref l)) (fun it s₂ => CompAtC prog w A env target elt ifs scope cl Q it s₂) E s := by
  have hll : l < s.heap.objs.size := by obtain ⟨_, e, _⟩ := hl; exact Heap.lt_size e
  refine wpAny_pyIter_list hl ?_
  refine comp_core (KTurns.ofWalks (Walks.list hh s.heap.objs.size l (Nat.ne_of_lt hll) items) fun i v s Q E st q => letGo_listiter st.1 q) (fun i h st => ?_) (fun s' Q' E' st q => (Walks.list hh s.heap.objs.size l (Nat.ne_of_lt hll) items).self 0 _ _ _ st q)
    hn (fun b hb => ?_) ⟨⟨_, Heap.get?_push_size _ rfl, rfl, rfl⟩, hl.push _⟩ MM J Bx hBx (fun i v C h _ hP hC => bind i v C hP hC) h0 stab turn done
  · obtain ⟨o, ho, _⟩ := st.1; exact ⟨o, ho⟩
  · simp only [List.mem_cons, List.not_mem_nil, or_false] at hb
    rcases hb with rfl | rfl
    · exact Nat.lt_succ_self _
    · exact Nat.lt_succ_of_lt hll

/-- a comprehension over a list -/
theorem comp_list {target elt : Expr} {ifs : List Expr} {scope : Scope} {cl : List (Str × Addr)} {Q : Value → Shared → Prop} {l : Addr} {items : Array Value}
    (MM : Nat → (Str → Option Value) → Prop) (J : List Addr → Nat → List Value → Heap → Prop)
    (hh : A.handled = none) (hl : s.heap.IsList l items) (hn : items.size ≤ 1000)
    (bind : ∀ i v C, items[i]? = some v → s.heap.objs.size < C → Binds prog w A target (compEnvC scope cl C env) C s v (MM i))
    (h0 : ∀ B h, J B 0 [] h)
    (stab : ∀ B i ys h h', (∀ b o, b ∉ B → h.get? b = some o → h'.get? b = some o) → J B i ys h → J B i ys h')
    (turn : ∀ B i ys C h₃ tk₃ m₃, i < items.size → J B i ys h₃ → s.heap.objs.size ≤ C → (∀ b ∈ B, ∃ o, h₃.get? b = some o) → h₃.Ns C m₃ → MM i m₃ → Kp s.heap h₃ →
      VTurnJ prog w A (compEnvC scope cl C env) elt ifs { s with heap := h₃, toks := tk₃ } (J B (i + 1) ys) (fun y => J B (i + 1) (ys ++ [y])))
    (done : ∀ B D h' tk' ys, J B items.size ys h' → s.heap.objs.size ≤ D → h'.PlainList D (List.toArray ys) → Kp s.heap h' → Q (.ref D) { s with heap := h', toks := tk' }) :
    wpAny (model prog w) A (pyIter (.ref l)) (fun it s₂ => CompAt prog w A env target elt ifs scope cl Q it s₂) E s :=
  comp_listC MM J [] (fun _ h => nomatch h) hh hl hn bind h0 stab turn fun B C D h' tk' ys _ _ hJ _ hD _ hl' hk => done B D h' tk' ys hJ hD hl' hk

/-- a comprehension stored, over a list -/
theorem comp_listS {y : Str} {m : Str → Option Value} {target elt : Expr} {ifs : List Expr} {scope : Scope} {cl : List (Str × Addr)} {Q : Flow → Shared → Prop} {l : Addr} {items : Array Value}
    (MM : Nat → (Str → Option Value) → Prop) (J : List Addr → Nat → List Value → Heap → Prop)
    (hh : A.handled = none) (hns : s.heap.Ns env.locals m) (hl : s.heap.IsList l items) (hn : items.size ≤ 1000)
    (bind : ∀ i v C, items[i]? = some v → s.heap.objs.size < C → Binds prog w A target (compEnvC scope cl C env) C s v (MM i))
    (h0 : ∀ B h, J B 0 [] h)
    (stab : ∀ B i ys h h', (∀ b o, b ∉ B → h.get? b = some o → h'.get? b = some o) → J B i ys h → J B i ys h')
    (turn : ∀ B i ys C h₃ tk₃ m₃, i < items.size → J B i ys h₃ → s.heap.objs.size ≤ C → (∀ b ∈ B, ∃ o, h₃.get? b = some o) → h₃.Ns C m₃ → MM i m₃ → Kp s.heap h₃ →
      VTurnJ prog w A (compEnvC scope cl C env) elt ifs { s with heap := h₃, toks := tk₃ } (J B (i + 1) ys) (fun y => J B (i + 1) (ys ++ [y])))
    (done : ∀ B D h' tk' ys, J B items.size ys h' → s.heap.objs.size ≤ D → h'.PlainList D (List.toArray ys) → h'.Ns env.locals (fun z => if z = y then some (.ref D) else m z) → (∀ b o, b ≠ env.locals → s.heap.get? b = some o → h'.get? b = some o) → Q .next { s with heap := h', toks := tk' }) :
    wpAny (model prog w) A (pyIter (.ref l)) (fun it s₂ => CompAtC prog w A env target elt ifs scope cl
      (StQ env y Q) it s₂) E s := by
  obtain ⟨oL, ep, es, hoL, _⟩ := id hns
  have hLs : env.locals < s.heap.objs.size := Heap.lt_size hoL
  refine comp_listC MM J [env.locals] (fun b hb => ?_) hh hl hn bind h0 stab turn fun B C D h' tk' ys hCB hLB hJ hC hD hDC hl' hk => ?_
  · rw [List.mem_singleton.mp hb]; exact ⟨oL, hoL⟩
  · refine ⟨m, hns.keeps hk, Nat.ne_of_gt (Nat.lt_of_lt_of_le hLs hC), fun h'' tk'' hn'' k'' => ?_⟩
    refine done B D h'' tk'' ys (stab _ _ _ _ _ (fun b o hb e => k'' b o (fun q => hb (q ▸ hLB _ (List.mem_singleton.mpr rfl))) (fun q => hb (q ▸ hCB)) e) hJ) hD (hl'.at fun o e => k'' D o (Nat.ne_of_gt (Nat.lt_of_lt_of_le hLs hD)) hDC e) hn'' fun b o hb e => ?_
    exact k'' b o hb (Nat.ne_of_lt (Nat.lt_of_lt_of_le (Heap.lt_size e) hC)) (hk b o e)

/-- a comprehension over range(n) -/
theorem comp_rngC {x : Str} {px : Pos} {elt : Expr} {ifs : List Expr} {scope : Scope} {cl : List (Str × Addr)} {Q : Addr → Value → Shared → Prop} {r : Addr} {n : Nat} {t₀ u₀ v₀ : Tok}
    (MM : Nat → (Str → Option Value) → Prop) (J : List Addr → Nat → List Value → Heap → Prop) (Bx : List Addr) (hBx : ∀ b ∈ Bx, ∃ o, s.heap.get? b = some o)
    (hh : A.handled = none) (hr : IsRange s.heap r 0 n 1 t₀ u₀ v₀) (hn : n ≤ 1000)
    (bind : ∀ i t C, i < n → s.heap.objs.size < C → Binds prog w A (.Name x px) (compEnvC scope cl C env) C s (.int (i : Nat) t) (MM i))
    (h0 : ∀ B h, J B 0 [] h)
    (stab : ∀ B i ys h h', (∀ b o, b ∉ B → h.get? b = some o → h'.get? b = some o) → J B i ys h → J B i ys h')
    (turn : ∀ B i ys C h₃ tk₃ m₃, i < n → J B i ys h₃ → s.heap.objs.size ≤ C → (∀ b ∈ B, ∃ o, h₃.get? b = some o) → h₃.Ns C m₃ → MM i m₃ → Kp s.heap h₃ →
      VTurnJ prog w A (compEnvC scope cl C env) elt ifs { s with heap := h₃, toks := tk₃ } (J B (i + 1) ys) (fun y => J B (i + 1) (ys ++ [y])))
    (done : ∀ B C D h' tk' ys, C ∈ B → (∀ b ∈ Bx, b ∈ B) → J B n ys h' → s.heap.objs.size ≤ C → s.heap.objs.size ≤ D → D ≠ C → h'.PlainList D (List.toArray ys) → Kp s.heap h' → Q C (.ref D) { s with heap := h', toks := tk' }) :
    wpAny (model prog w) A (pyIter (.ref r)) (fun it s₂ => CompAtC prog w A env (.Name x px) elt ifs scope cl Q it s₂) E s := by
  have hsmall : Builtin.Range.small 0 (n : Int) 1 = true := small_one (by omega) (by omega) (by omega) (by omega)
  have hrs : Builtin.Range.rangeSize 0 (n : Int) 1 = (n : Int) := by
    simp only [Builtin.Range.rangeSize]; first | omega | (simp; omega)
  refine wpAny_pyIter_range hr hsmall ?_
  refine comp_core (KTurns.ofWalks (Walks.range hh s.heap.objs.size 0 1 n) fun i v s Q E st q => ?_) (fun i h st => ⟨_, st⟩) (fun s' Q' E' st q => (Walks.range hh s.heap.objs.size 0 1 n).self 0 _ _ _ st q)
    hn (fun b hb => ?_) ?_ MM J Bx hBx (fun i v C h hi hP hC => ?_) h0 stab turn done
  · exact wpAny_pure q
  · rw [List.mem_singleton.mp hb]; exact Nat.lt_succ_self _
  · show IsRangeIter _ _ _ _ _
    rw [hrs]; simpa using Heap.get?_push_size _ rfl
  · obtain ⟨t, rfl⟩ := hP
    have := bind i t C hi hC
    simpa using this
/-- a comprehension over range(n) -/
theorem comp_rng {x : Str} {px : Pos} {elt : Expr} {ifs : List Expr} {scope : Scope} {cl : List (Str × Addr)} {Q : Value → Shared → Prop} {r : Addr} {n : Nat} {t₀ u₀ v₀ : Tok}
    (MM : Nat → (Str → Option Value) → Prop) (J : List Addr → Nat → List Value → Heap → Prop)
    (hh : A.handled = none) (hr : IsRange s.heap r 0 n 1 t₀ u₀ v₀) (hn : n ≤ 1000)
    (bind : ∀ i t C, i < n → s.heap.objs.size < C → Binds prog w A (.Name x px) (compEnvC scope cl C env) C s (.int (i : Nat) t) (MM i))
    (h0 : ∀ B h, J B 0 [] h)
    (stab : ∀ B i ys h h', (∀ b o, b ∉ B → h.get? b = some o → h'.get? b = some o) → J B i ys h → J B i ys h')
    (turn : ∀ B i ys C h₃ tk₃ m₃, i < n → J B i ys h₃ → s.heap.objs.size ≤ C → (∀ b ∈ B, ∃ o, h₃.get? b = some o) → h₃.Ns C m₃ → MM i m₃ → Kp s.heap h₃ →
      VTurnJ prog w A (compEnvC scope cl C env) elt ifs { s with heap := h₃, toks := tk₃ } (J B (i + 1) ys) (fun y => J B (i + 1) (ys ++ [y])))
    (done : ∀ B D h' tk' ys, J B n ys h' → s.heap.objs.size ≤ D → h'.PlainList D (List.toArray ys) → Kp s.heap h' → Q (.ref D) { s with heap := h', toks := tk' }) :
    wpAny (model prog w) A (pyIter (.ref r)) (fun it s₂ => CompAt prog w A env (.Name x px) elt ifs scope cl Q it s₂) E s :=
  comp_rngC MM J [] (fun _ h => nomatch h) hh hr hn bind h0 stab turn fun B C D h' tk' ys _ _ hJ _ hD _ hl' hk => done B D h' tk' ys hJ hD hl' hk

/-- a comprehension stored, over range(n) -/
theorem comp_rngS {y : Str} {m : Str → Option Value} {x : Str} {px : Pos} {elt : Expr} {ifs : List Expr} {scope : Scope} {cl : List (Str × Addr)} {Q : Flow → Shared → Prop} {r : Addr} {n : Nat} {t₀ u₀ v₀ : Tok}
    (MM : Nat → (Str → Option Value) → Prop) (J : List Addr → Nat → List Value → Heap → Prop)
    (hh : A.handled = none) (hns : s.heap.Ns env.locals m) (hr : IsRange s.heap r 0 n 1 t₀ u₀ v₀) (hn : n ≤ 1000)
    (bind : ∀ i t C, i < n → s.heap.objs.size < C → Binds prog w A (.Name x px) (compEnvC scope cl C env) C s (.int (i : Nat) t) (MM i))
    (h0 : ∀ B h, J B 0 [] h)
    (stab : ∀ B i ys h h', (∀ b o, b ∉ B → h.get? b = some o → h'.get? b = some o) → J B i ys h → J B i ys h')
    (turn : ∀ B i ys C h₃ tk₃ m₃, i < n → J B i ys h₃ → s.heap.objs.size ≤ C → (∀ b ∈ B, ∃ o, h₃.get? b = some o) → h₃.Ns C m₃ → MM i m₃ → Kp s.heap h₃ →
      VTurnJ prog w A (compEnvC scope cl C env) elt ifs { s with heap := h₃, toks := tk₃ } (J B (i + 1) ys) (fun y => J B (i + 1) (ys ++ [y])))
    (done : ∀ B D h' tk' ys, J B n ys h' → s.heap.objs.size ≤ D → h'.PlainList D (List.toArray ys) → h'.Ns env.locals (fun z => if z = y then some (.ref D) else m z) → (∀ b o, b ≠ env.locals → s.heap.get? b = some o → h'.get? b = some o) → Q .next { s with heap := h', toks := tk' }) :
    wpAny (model prog w) A (pyIter (.ref r)) (fun it s₂ => CompAtC prog w A env (.Name x px) elt ifs scope cl
      (StQ env y Q) it s₂) E s := by
  obtain ⟨oL, ep, es, hoL, _⟩ := id hns
  have hLs : env.locals < s.heap.objs.size := Heap.lt_size hoL
  refine comp_rngC MM J [env.locals] (fun b hb => ?_) hh hr hn bind h0 stab turn fun B C D h' tk' ys hCB hLB hJ hC hD hDC hl' hk => ?_
  · rw [List.mem_singleton.mp hb]; exact ⟨oL, hoL⟩
  · refine ⟨m, hns.keeps hk, Nat.ne_of_gt (Nat.lt_of_lt_of_le hLs hC), fun h'' tk'' hn'' k'' => ?_⟩
    refine done B D h'' tk'' ys (stab _ _ _ _ _ (fun b o hb e => k'' b o (fun q => hb (q ▸ hLB _ (List.mem_singleton.mpr rfl))) (fun q => hb (q ▸ hCB)) e) hJ) hD (hl'.at fun o e => k'' D o (Nat.ne_of_gt (Nat.lt_of_lt_of_le hLs hD)) hDC e) hn'' fun b o hb e => ?_
    exact k'' b o hb (Nat.ne_of_lt (Nat.lt_of_lt_of_le (Heap.lt_size e) hC)) (hk b o e)

theorem store_loc {scope : Scope} {cl : List (Str × Addr)} {x : Str} {px : Pos} {C : Addr} {s₂ : Shared} {h₃ : Heap} {tk₃ : Nat} {v : Value} {m₃ : Str → Option Value} {Q : Unit → Shared → Prop}
    (hkind : scope.kind = .function) (hx : scope.names.lookup x = some .local) (hn : h₃.Ns C m₃)
    (h : ∀ h₄ tk₄, h₄.Ns C (fun y => if y = x then some v else m₃ y) → (∀ b o, b ≠ C → h₃.get? b = some o → h₄.get? b = some o) → Q () { s₂ with heap := h₄, toks := tk₄ }) :
    wpAny (model prog w) A (assign (.Name x px) (compEnvC scope cl C env) v) Q E { s₂ with heap := h₃, toks := tk₃ } :=
  wpAny_assign_Name (wpAny_storeName_local (lookup_relabel_local hx) hn (fun h₄ hn₄ hs₄ => h h₄ _ hn₄ fun b o hb e => hs₄.extBut b o hb e) (by simp [compEnvC, relabel, hkind]))
theorem Binds.imp {target : Expr} {cenv : Env} {C : Addr} {v : Value} {M1 M2 : (Str → Option Value) → Prop} (h : Binds prog w A target cenv C s v M1) (i : ∀ m, M1 m → M2 m) : Binds prog w A target cenv C s v M2 :=
  fun h₃ tk₃ m₃ Q' hn k q => h h₃ tk₃ m₃ Q' hn k fun h₄ tk₄ m₄ hn₄ hm k4 => q h₄ tk₄ m₄ hn₄ (i _ hm) k4
theorem bind_name {scope : Scope} {cl : List (Str × Addr)} {x : Str} {px : Pos} {C : Addr} {v : Value} (hkind : scope.kind = .function) (hx : scope.names.lookup x = some .local) :
    Binds prog w A (.Name x px) (compEnvC scope cl C env) C s v (fun m => m x = some v) := by
  intro h₃ tk₃ m₃ Q' hn _ h
  exact store_loc hkind hx hn fun h₄ tk₄ hn₄ k4 => h h₄ tk₄ _ hn₄ (by simp) k4
theorem bind_tup2 {scope : Scope} {cl : List (Str × Addr)} {x y : Str} {px py pos : Pos} {kt : Nat} {C T : Addr} {a b : Value} (hh : A.handled = none) (hkind : scope.kind = .function) (hx : scope.names.lookup x = some .local) (hy : scope.names.lookup y = some .local)
    (hxy : x ≠ y) (hT : s.heap.IsTuple T #[a, b]) :
    Binds prog w A (.Tuple [.Name x px, .Name y py] kt pos) (compEnvC scope cl C env) C s (.ref T) (fun m => m x = some a ∧ m y = some b) := by
  intro h₃ tk₃ m₃ Q' hn k h
  have hTt : h₃.IsTuple T #[a, b] := by obtain ⟨o, ho, r⟩ := hT; exact ⟨o, k _ _ ho, r⟩
  refine wpAny_assign_Tuple hh hTt rfl rfl fun h₄ hext => ?_
  have k4 : Kp h₃ h₄ := fun b o e => hext b o (Nat.ne_of_lt (Heap.lt_size e)) e
  show wpAny _ _ (assignInOrder [assign (.Name x px) (compEnvC scope cl C env), assign (.Name y py) (compEnvC scope cl C env)] [a, b]) _ _ _
  refine assignInOrder_cons (store_loc hkind hx (hn.keeps k4) fun h₅ tk₅ hn₅ k5 => ?_)
  refine assignInOrder_cons (store_loc hkind hy hn₅ fun h₆ tk₆ hn₆ k6 => ?_)
  refine assignInOrder_nil ?_
  exact h h₆ tk₆ _ hn₆ ⟨by simp [hxy], by simp⟩ fun b o hb e => k6 b o hb (k5 b o hb (k4 b o e))
theorem bind_tup3 {scope : Scope} {cl : List (Str × Addr)} {x y z : Str} {px py pz pos : Pos} {kt : Nat} {C T : Addr} {a b c : Value} (hh : A.handled = none) (hkind : scope.kind = .function) (hx : scope.names.lookup x = some .local) (hy : scope.names.lookup y = some .local) (hz : scope.names.lookup z = some .local)
    (hxy : x ≠ y) (hxz : x ≠ z) (hyz : y ≠ z) (hT : s.heap.IsTuple T #[a, b, c]) :
    Binds prog w A (.Tuple [.Name x px, .Name y py, .Name z pz] kt pos) (compEnvC scope cl C env) C s (.ref T) (fun m => m x = some a ∧ m y = some b ∧ m z = some c) := by
  intro h₃ tk₃ m₃ Q' hn k h
  have hTt : h₃.IsTuple T #[a, b, c] := by obtain ⟨o, ho, r⟩ := hT; exact ⟨o, k _ _ ho, r⟩
  refine wpAny_assign_Tuple hh hTt rfl rfl fun h₄ hext => ?_
  have k4 : Kp h₃ h₄ := fun b o e => hext b o (Nat.ne_of_lt (Heap.lt_size e)) e
  show wpAny _ _ (assignInOrder [assign (.Name x px) (compEnvC scope cl C env), assign (.Name y py) (compEnvC scope cl C env), assign (.Name z pz) (compEnvC scope cl C env)] [a, b, c]) _ _ _
  refine assignInOrder_cons (store_loc hkind hx (hn.keeps k4) fun h₅ tk₅ hn₅ k5 => ?_)
  refine assignInOrder_cons (store_loc hkind hy hn₅ fun h₆ tk₆ hn₆ k6 => ?_)
  refine assignInOrder_cons (store_loc hkind hz hn₆ fun h₇ tk₇ hn₇ k7 => ?_)
  refine assignInOrder_nil ?_
  exact h h₇ tk₇ _ hn₇ ⟨by simp [hxy, hxz], by simp [hyz], by simp⟩ fun b o hb e => k7 b o hb (k6 b o hb (k5 b o hb (k4 b o e)))
end
end Mine

-- R7
namespace Mine
theorem topOff_R7 : True := by
  w_top off
  trivial
end Mine
namespace Mine
open PySem PySem.W PyProof.Rows PySem.Calls PySem.Spec
section
variable {prog : Program} {w : World} {A : Around} {E : Value → Shared → Prop} {s : Shared} {env : Env}
theorem vturn_imp {cenv : Env} {elt : Expr} {ifs : List Expr} {s₃ : Shared} {Gn Gn' : Heap → Prop} {Gy Gy' : Value → Heap → Prop} (h : VTurnJ prog w A cenv elt ifs s₃ Gn Gy)
    (hn : ∀ s', Keeps s₃ s' → Gn s'.heap → Gn' s'.heap) (hy : ∀ y s', Keeps s₃ s' → Gy y s'.heap → Gy' y s'.heap) : VTurnJ prog w A cenv elt ifs s₃ Gn' Gy' := by
  refine wpAny_mono h (fun ok s₅ h₅ => ?_) fun _ _ e => e
  cases ok with
  | false => exact ⟨hn _ h₅.2 h₅.1, h₅.2⟩
  | true => exact wpAny_mono h₅ (fun y s₆ h₆ => ⟨hy _ _ h₆.2 h₆.1, h₆.2⟩) fun _ _ e => e
/-- a comprehension over range(n) whose name is captured -/
theorem comp_rngK {x : Str} {px : Pos} {elt : Expr} {ifs : List Expr} {scope : Scope} {cl : List (Str × Addr)} {Q : Value → Shared → Prop} {r : Addr} {n : Nat} {t₀ u₀ v₀ : Tok} (G : Nat → List Value → Prop)
    (hh : A.handled = none) (hr : IsRange s.heap r 0 n 1 t₀ u₀ v₀) (hn : n ≤ 1000) (hkind : scope.kind = .function)
    (hx : ∀ cl' C', (compEnvC scope cl' C' env).kindOf x = some .cell) (h0 : G 0 [])
    (turn : ∀ i ys t C K h₃ tk₃ m₃, i < n → G i ys → s.heap.objs.size ≤ C → s.heap.objs.size ≤ K → K ≠ C → h₃.Ns C m₃ → h₃.IsCell K (some (.int (i : Nat) t)) → Kp s.heap h₃ →
      VTurnJ prog w A (compEnvC scope ((x, K) :: cl) C env) elt ifs { s with heap := h₃, toks := tk₃ } (fun _ => G (i + 1) ys) (fun y _ => G (i + 1) (ys ++ [y])))
    (done : ∀ D h' tk' ys, G n ys → s.heap.objs.size ≤ D → h'.PlainList D (List.toArray ys) → Kp s.heap h' → Q (.ref D) { s with heap := h', toks := tk' }) :
    wpAny (model prog w) A (pyIter (.ref r)) (fun it s₂ => CompAtK prog w A env (.Name x px) elt ifs scope x cl Q it s₂) E s := by
  have hsmall : Builtin.Range.small 0 (n : Int) 1 = true := small_one (by omega) (by omega) (by omega) (by omega)
  have hrs : Builtin.Range.rangeSize 0 (n : Int) 1 = (n : Int) := by
    simp only [Builtin.Range.rangeSize]; first | omega | (simp; omega)
  refine wpAny_pyIter_range hr hsmall ?_
  generalize hoI : ({ cls := .type "range_iterator", data := .fields _ } : Obj) = oI
  have hsz : (s.heap.push oI).objs.size = s.heap.objs.size + 1 := Heap.size_push ..
  have notI : ∀ b o, s.heap.get? b = some o → b ∉ [s.heap.objs.size] := fun b o e hm => by
    rw [List.mem_singleton.mp hm] at e; exact Nat.lt_irrefl _ (Heap.lt_size e)
  refine ⟨s.heap.objs.size, [s.heap.objs.size], [s.heap.objs.size], n, _, _, _, rfl, KTurns.ofWalks (Walks.range hh s.heap.objs.size 0 1 n) (fun i v s Q E st q => wpAny_pure q), fun s' Q' E' st q => (Walks.range hh s.heap.objs.size 0 1 n).self 0 _ _ _ st q,
    Nat.le_trans hn (by decide), ?_, ?_, ?_⟩
  · intro b hb
    rw [List.mem_singleton.mp hb]
    show _ < (s.heap.push _).objs.size
    rw [hsz]; exact Nat.lt_succ_self _
  · show IsRangeIter (s.heap.push oI) _ _ _ _
    rw [← hoI, hrs]; simpa using Heap.get?_push_size _ rfl
  intro C D K hC hD hK hDC hKC hKD
  dsimp only at hC hD hK
  rw [hsz] at hC hD hK
  have hC' : s.heap.objs.size ≤ C := Nat.le_of_lt hC
  have hK' : s.heap.objs.size ≤ K := Nat.le_of_lt hK
  refine ⟨fun i ys h => G i ys ∧ ∃ v, h.IsCell K v, fun h _ hc => ⟨h0, _, hc⟩, fun i ys h h' hk hJ => ⟨hJ.1, ?_⟩, ?_, ?_⟩
  · obtain ⟨v, o, ho, hd⟩ := hJ.2
    exact ⟨v, o, hk K o (fun hm => Nat.lt_irrefl _ (by rw [List.mem_singleton.mp hm] at hK; exact hK)) hKC hKD ho, hd⟩
  · rintro i ys v h₃ tk₃ m₃ hi hP _ ⟨hG, v0, hc0⟩ hns _ hk
    obtain ⟨t, ht⟩ : ∃ t, v = .int (0 + (i : Int) * 1) t := by first | exact hP | exact hP.2
    have hv : v = .int (i : Nat) t := by rw [ht]; simp
    clear hP ht
    subst hv
    refine cturn_of (wpAny_assign_Name ?_)
    refine wpAny_storeName_cell (c := K) (by simp [compEnvC, relabel, hkind]) (hx _ _) (by simp [compEnvC]) hc0 fun h₄ hc₄ hs₄ => ?_
    have hn₄ : h₄.Ns C m₃ := hns.sameBut hs₄ (Ne.symm hKC)
    have k4 : ∀ b o, b ≠ K → h₃.get? b = some o → h₄.get? b = some o := fun b o hb e => (hs₄.2 b hb).trans e
    refine ⟨h₄, _, m₃, rfl, hn₄, fun b o _ hb e => k4 b o (fun q => hb (List.mem_singleton.mpr q)) e, ?_⟩
    refine vturn_imp (turn i ys t C K h₄ _ m₃ hi hG hC' hK' hKC hn₄ hc₄ fun b o e => k4 b o (Nat.ne_of_lt (Nat.lt_of_lt_of_le (Heap.lt_size e) hK')) (hk b o (notI b o e) (Heap.get?_push_of_some _ e))) ?_ ?_
    · rintro s' ⟨h', tk', rfl, kk⟩ g
      exact ⟨g, _, hc₄.keeps kk⟩
    · rintro y s' ⟨h', tk', rfl, kk⟩ g
      exact ⟨g, _, hc₄.keeps kk⟩
  · intro h' tk' ys hl hJ hk
    exact done D h' tk' ys hJ.1 (Nat.le_of_lt hD) hl fun b o e => hk b o (notI b o e) (Heap.get?_push_of_some _ e)
end
end Mine

-- R5
namespace Mine
theorem topOff_R5 : True := by
  w_top off
  trivial
end Mine
namespace Mine
open PySem PySem.W PyProof.Rows PySem.Calls PySem.Spec
/-- a sign list as data -/
def dsg (l : List Nat) : PyData := .list (l.map fun c => .str (tx [c]))
theorem strs_reads {h : Heap} : ∀ {vs : List Value} {l : List Nat}, StrsAre vs (l.map fun c => tx [c]) → ReadsAll h vs (l.map fun c => PyData.str (tx [c])) []
  | _, [], x => by cases x; exact .nil
  | _, c :: r, x => by
    cases x with
    | cons _ t y => exact .cons (as := []) (bs := []) (.str _ t) (strs_reads y)
theorem LL.reads {h0 : Heap} {B : List Addr} {h : Heap} {ys : List Value} {ls : List (List Nat)} (x : LL h0 B h ys ls) : ∃ as, ReadsAll h ys (ls.map dsg) as := by
  induction x with
  | nil => exact ⟨_, .nil⟩
  | cons _ _ hl hS _ ih =>
    obtain ⟨as, ih⟩ := ih
    obtain ⟨o, ho, hc, n, hd⟩ := hl
    exact ⟨_, .cons (.list ho hc hd (strs_reads hS)) ih⟩
theorem lay_sg {l : List Nat} (h : ∀ c ∈ l, c < 1000) : (dsg l).canLay0 = true ∧ (dsg l).depth ≤ 1 := by
  have h1 : ∀ l : List Nat, (∀ c ∈ l, c < 1000) → PyData.canLayAll0 (l.map fun c => PyData.str (tx [c])) = true ∧ PyData.depthAll (l.map fun c => PyData.str (tx [c])) = 0 := by
    intro l
    induction l with
    | nil => intro _; exact ⟨rfl, rfl⟩
    | cons c r ih =>
      intro h
      obtain ⟨i1, i2⟩ := ih fun c hc => h c (List.mem_cons_of_mem _ hc)
      have hc := h c (List.mem_cons_self ..)
      refine ⟨?_, ?_⟩
      · show (PyData.canLay0 (.str (tx [c])) && PyData.canLayAll0 _) = true
        rw [i1, Bool.and_true]
        show (tx [c]).cps.all (· < 0x110000) = true
        simp [tx]; omega
      · show max 0 (PyData.depthAll _) = 0
        rw [i2]; rfl
  obtain ⟨h2, h3⟩ := h1 l h
  refine ⟨h2, ?_⟩
  show PyData.depthAll _ + 1 ≤ 1
  rw [h3]; exact Nat.le_refl 1
theorem lay_sgs : ∀ {ls : List (List Nat)}, (∀ l ∈ ls, ∀ c ∈ l, c < 1000) → SeqAt.shaped (.list (ls.map dsg)) = true := by
  have h1 : ∀ ls : List (List Nat), (∀ l ∈ ls, ∀ c ∈ l, c < 1000) → PyData.canLayAll0 (ls.map dsg) = true ∧ PyData.depthAll (ls.map dsg) ≤ 1 := by
    intro ls
    induction ls with
    | nil => intro _; exact ⟨rfl, Nat.zero_le _⟩
    | cons l r ih =>
      intro h
      obtain ⟨i1, i2⟩ := ih fun l hl => h l (List.mem_cons_of_mem _ hl)
      obtain ⟨j1, j2⟩ := lay_sg (h l (List.mem_cons_self ..))
      refine ⟨?_, ?_⟩
      · show (PyData.canLay0 (dsg l) && PyData.canLayAll0 _) = true
        rw [j1, i1]; rfl
      · show max (PyData.depth (dsg l)) (PyData.depthAll _) ≤ 1
        exact Nat.max_le.mpr ⟨j2, i2⟩
  intro ls h
  obtain ⟨h2, h3⟩ := h1 ls h
  show (PyData.canLayAll0 _ && decide (PyData.depthAll _ + 1 ≤ 64)) = true
  rw [h2, decide_eq_true (by omega)]; rfl
/-- the law's numbers -/
def nn (ns : List Int) (k : Int) : Int := (nms ns).getD k.toNat 0
theorem nn_bd (ns : List Int) {k : Int} (h0 : 0 ≤ k) (h1 : k < 14) : 0 ≤ nn ns k ∧ nn ns k < 64 := (nms_at ns (i := k.toNat) (by omega)).2
def gA (ns : List Int) : Int := number (nn ns 0) (nn ns 1) (nn ns 2)
def gB (ns : List Int) : Int := number (nn ns 3) (nn ns 4) (nn ns 5)
/-- the two listings -/
def rA (ns : List Int) : List Nat := fmL (gA ns)
def rB (ns : List Int) : List Nat := fmL (gB ns)
theorem row_A (ns : List Int) : Row (rA ns) := row_fm (nn_bd ns (by decide) (by decide)) (nn_bd ns (by decide) (by decide)) (nn_bd ns (by decide) (by decide))
theorem row_B (ns : List Int) : Row (rB ns) := row_fm (nn_bd ns (by decide) (by decide)) (nn_bd ns (by decide) (by decide)) (nn_bd ns (by decide) (by decide))
theorem bck_A (ns : List Int) : bck (rA ns) = gA ns := back_fm (nn_bd ns (by decide) (by decide)) (nn_bd ns (by decide) (by decide)) (nn_bd ns (by decide) (by decide))
theorem bck_B (ns : List Int) : bck (rB ns) = gB ns := back_fm (nn_bd ns (by decide) (by decide)) (nn_bd ns (by decide) (by decide)) (nn_bd ns (by decide) (by decide))
/-- a pattern's signs -/
def kp (ns : List Int) (i : Nat) : List Nat := sgn (tx ([rA ns, rB ns].getD ((nn ns (7 + 2 * (i : Int))).fdiv 48).toNat [])) (nn ns (6 + 2 * (i : Int))) (nn ns (7 + 2 * (i : Int)))
def kpt (ns : List Int) : List (List Nat) := [kp ns 0, kp ns 1, kp ns 2, kp ns 3]
theorem kp_ix (ns : List Int) {i : Nat} (hi : i < 4) : (nn ns (7 + 2 * (i : Int))).fdiv 48 = 0 ∨ (nn ns (7 + 2 * (i : Int))).fdiv 48 = 1 := by
  have h := nn_bd ns (k := 7 + 2 * (i : Int)) (by omega) (by omega)
  rw [Int.fdiv_eq_ediv_of_nonneg _ (by decide)]
  omega
theorem sig_kp (ns : List Int) {i : Nat} (hi : i < 4) : Sig (rA ns) (rB ns) (kp ns i) := by
  refine sgn_sig ?_
  rcases kp_ix ns hi with e | e <;> rw [e]
  · exact .inl rfl
  · exact .inr rfl
theorem kpt_at (ns : List Int) {i : Nat} (hi : i < 4) : kp ns i = (kpt ns).getD i [] := by
  match i, hi with
  | 0, _ => rfl
  | 1, _ => rfl
  | 2, _ => rfl
  | 3, _ => rfl
theorem kpt_lt (ns : List Int) : ∀ l ∈ kpt ns, ∀ c ∈ l, c < 1000 := by
  intro l hl c hc
  have : ∃ i, i < 4 ∧ l = kp ns i := by
    simp only [kpt, List.mem_cons, List.not_mem_nil, or_false] at hl
    rcases hl with rfl | rfl | rfl | rfl
    · exact ⟨0, by decide, rfl⟩
    · exact ⟨1, by decide, rfl⟩
    · exact ⟨2, by decide, rfl⟩
    · exact ⟨3, by decide, rfl⟩
  obtain ⟨i, hi, rfl⟩ := this
  have := sig_lst (row_A ns) (row_B ns) (sig_kp ns hi) c hc
  unfold Lst at this
  omega
section
variable {prog : Program} {w : World} {A : Around} {E : Value → Shared → Prop} {s : Shared}
/-- two equal lists of sign lists are not unequal -/
theorem ne_sgs {D1 D2 : Addr} {ys1 ys2 : List Value} {ls : List (List Nat)} {B1 B2 : List Addr} {g1 g2 : Heap} {Q : Value → Shared → Prop} (h1 : s.heap.IsList D1 ys1.toArray) (x1 : LL g1 B1 s.heap ys1 ls) (h2 : s.heap.IsList D2 ys2.toArray) (x2 : LL g2 B2 s.heap ys2 ls)
    (hc : ∀ l ∈ ls, ∀ c ∈ l, c < 1000) (hu : A.units + 64 < cLine) (h : Q (.bool false) s) : wpAny (model prog w) A (compareOp .NotEq (.ref D1) (.ref D2)) Q E s := by
  obtain ⟨as1, r1⟩ := x1.reads
  obtain ⟨as2, r2⟩ := x2.reads
  obtain ⟨o1, ho1, hc1, n1, hd1⟩ := h1
  obtain ⟨o2, ho2, hc2, n2, hd2⟩ := h2
  have sh := lay_sgs hc
  refine ne_dataH (.list ho1 hc1 hd1 (by simpa using r1)) (.list ho2 hc2 hd2 (by simpa using r2)) sh sh hu ?_
  rw [SeqAt.eqv_refl _ (SeqAt.canLay_of_shaped sh)]
  exact h
theorem item_list {value slice : PySem.Expr} {l : Addr} {vs : List Value} {k : Int} {u : Tok} {v : Value} {Q : Value → Shared → Prop} (hl : s.heap.IsList l vs.toArray) (h0 : 0 ≤ k) (hhi : k < 1000) (hx : vs[k.toNat]? = some v) (h : Q v s)
    (hs : subscripted slice false (.ref l) (.int k u) = operate [.ref l, .int k u] (getItem (.ref l) (.int k u)) := by with_unfolding_all rfl) :
    wpAny (model prog w) A (subscriptTail value slice (.ref l) (.int k u)) Q E s := item_litK hl h0 (by omega) hx h hs
theorem item_nm {value slice : PySem.Expr} {l : Addr} {us : List Value} {ns : List Int} {k : Int} {u : Tok} {Q : Value → Shared → Prop} (hl : s.heap.IsList l us.toArray) (hus : IntsAre us (nms ns)) (h0 : 0 ≤ k) (h1 : k < 14)
    (h : ∀ t, Q (.int (nn ns k) t) s)
    (hs : subscripted slice false (.ref l) (.int k u) = operate [.ref l, .int k u] (getItem (.ref l) (.int k u)) := by with_unfolding_all rfl) :
    wpAny (model prog w) A (subscriptTail value slice (.ref l) (.int k u)) Q E s :=
  item_anyK hl hus h0 (by rw [nms_len]; exact_mod_cast h1) (by omega) h hs
end
/-- the law's cells -/
abbrev CLs (L : Addr) (o1 o2 o3 o4 o5 o6 o7 : Obj) : List (Addr × Obj) :=
  [(L + 1 + 1 + 1 + 1 + 1 + 1 + 1, o1), (L + 1 + 1 + 1 + 1 + 1 + 1, o2), (L + 1 + 1 + 1 + 1 + 1, o3), (L + 1 + 1 + 1 + 1, o4), (L + 1 + 1 + 1, o5), (L + 1 + 1, o6), (L + 1, o7)]
/-- the law's names and cells -/
def cad (L : Addr) : List Addr := [L, L + 1 + 1 + 1 + 1 + 1 + 1 + 1, L + 1 + 1 + 1 + 1 + 1 + 1, L + 1 + 1 + 1 + 1 + 1, L + 1 + 1 + 1 + 1, L + 1 + 1 + 1, L + 1 + 1, L + 1]
/-- addresses off the cells -/
def Abv (L : Addr) (pre : List (Addr × Obj)) : Prop := ∀ p ∈ pre, p.1 ∉ cad L
theorem Abv.nil {L : Addr} : Abv L [] := fun _ h => nomatch h
theorem Abv.cons {L D : Addr} {o : Obj} {pre : List (Addr × Obj)} (h : D ∉ cad L) (x : Abv L pre) : Abv L ((D, o) :: pre) := fun p hp => by
  rcases List.mem_cons.mp hp with rfl | hp
  · exact h
  · exact x p hp
theorem nca {L D : Addr} (h : @LT.lt Nat _ (L + 1 + 1 + 1 + 1 + 1 + 1 + 1) D) : D ∉ cad L := fun hm => by
  have : ∀ x ∈ cad L, @LE.le Nat _ x (L + 1 + 1 + 1 + 1 + 1 + 1 + 1) := by
    intro x hx
    simp only [cad, List.mem_cons, List.not_mem_nil, or_false] at hx
    rcases hx with rfl | rfl | rfl | rfl | rfl | rfl | rfl | rfl <;> omega
  exact Nat.lt_irrefl _ (Nat.lt_of_lt_of_le h (this D hm))
theorem upd_pre {c : Addr} {o : Obj} {l : List (Addr × Obj)} {g : Obj → List (Addr × Obj)} (U : UpdF c o l g) : ∀ {pre : List (Addr × Obj)}, (∀ p ∈ pre, p.1 ≠ c) → UpdF c o (pre ++ l) (fun o' => pre ++ g o')
  | [], _ => U
  | p :: r, h => .tail (h p (List.mem_cons_self ..)) (upd_pre U fun q hq => h q (List.mem_cons_of_mem _ hq))
theorem store_cell {M : Model} {A : Around} {E : Value → Shared → Prop} {s : Shared} {h₀ : Heap} {L a : Addr} {m : Str → Option Value} {cn : Str} {cs : Scope} {ccd : Value} {cl : List (Str × Addr)} {x : Str} {v : Value} {Q : Unit → Shared → Prop} {news : List (Addr × Obj)} {g : Obj → List (Addr × Obj)} {c : Addr} {o : Obj} {v₀ : Option Value}
    (F : Fr h₀ L s.heap m) (N : News h₀ L s.heap news) (hc : cl.lookup x = some c) (U : UpdF c o news g) (hd : o.data = .cell v₀)
    (h : ∀ h' o', Fr h₀ L h' m → News h₀ L h' (g o') → o'.data = .cell (some v) → (∀ b ob, b ≠ c → s.heap.get? b = some ob → h'.get? b = some ob) → Q () { s with heap := h' })
    (hk : cs.kind = .function) (hx : (envX cn cs L a ccd cl).kindOf x = some .cell) : wpAny M A (storeName (envX cn cs L a ccd cl) x v) Q E s := by
  obtain ⟨own, rest, rfl, hg, h1, h2⟩ := U.split
  have hmem := N (c, o) (List.mem_append_right _ (.head _))
  refine wpAny_storeName_cell hk hx hc ⟨o, hmem.1, hd⟩ fun h' ⟨o', ho', hd'⟩ hs => ?_
  have kp : ∀ b ob, b ≠ c → s.heap.get? b = some ob → h'.get? b = some ob := fun b ob hb e => (hs.2 b hb).trans e
  refine h h' o' ⟨F.ns.sameBut hs (Ne.symm hmem.2.1), fun b ob e => kp b ob (fun q => ?_) (F.keep b ob e), F.above⟩ (hg o' ▸ N.setAt h1 h2 hs ho') hd' kp
  rw [q, hmem.2.2] at e; cases e
section
variable {L : Addr} {o1 o2 o3 o4 o5 o6 o7 : Obj} {pre : List (Addr × Obj)}
theorem abv_ne (h : Abv L pre) {c : Addr} (hc : c ∈ cad L) : ∀ p ∈ pre, p.1 ≠ c := fun p hp e => h p hp (e ▸ hc)
theorem nneq {a b : Nat} (h : a ≠ b) : (a : Addr) ≠ (b : Addr) := h
theorem cellU1 (h : Abv L pre) : UpdF (L + 1 + 1 + 1 + 1 + 1 + 1 + 1) o1 (pre ++ CLs L o1 o2 o3 o4 o5 o6 o7) (fun o' => pre ++ CLs L o' o2 o3 o4 o5 o6 o7) :=
  upd_pre (.head ((fun p hp => by
    simp only [List.mem_cons, List.not_mem_nil, or_false] at hp
    rcases hp with rfl | rfl | rfl | rfl | rfl | rfl <;> exact nneq (by omega)))) (abv_ne h (by simp [cad]))
theorem cellU2 (h : Abv L pre) : UpdF (L + 1 + 1 + 1 + 1 + 1 + 1) o2 (pre ++ CLs L o1 o2 o3 o4 o5 o6 o7) (fun o' => pre ++ CLs L o1 o' o3 o4 o5 o6 o7) :=
  upd_pre (.tail (nneq (by omega)) (.head ((fun p hp => by
    simp only [List.mem_cons, List.not_mem_nil, or_false] at hp
    rcases hp with rfl | rfl | rfl | rfl | rfl <;> exact nneq (by omega))))) (abv_ne h (by simp [cad]))
theorem cellU3 (h : Abv L pre) : UpdF (L + 1 + 1 + 1 + 1 + 1) o3 (pre ++ CLs L o1 o2 o3 o4 o5 o6 o7) (fun o' => pre ++ CLs L o1 o2 o' o4 o5 o6 o7) :=
  upd_pre (.tail (nneq (by omega)) (.tail (nneq (by omega)) (.head ((fun p hp => by
    simp only [List.mem_cons, List.not_mem_nil, or_false] at hp
    rcases hp with rfl | rfl | rfl | rfl <;> exact nneq (by omega)))))) (abv_ne h (by simp [cad]))
theorem cellU4 (h : Abv L pre) : UpdF (L + 1 + 1 + 1 + 1) o4 (pre ++ CLs L o1 o2 o3 o4 o5 o6 o7) (fun o' => pre ++ CLs L o1 o2 o3 o' o5 o6 o7) :=
  upd_pre (.tail (nneq (by omega)) (.tail (nneq (by omega)) (.tail (nneq (by omega)) (.head ((fun p hp => by
    simp only [List.mem_cons, List.not_mem_nil, or_false] at hp
    rcases hp with rfl | rfl | rfl <;> exact nneq (by omega))))))) (abv_ne h (by simp [cad]))
theorem cellU5 (h : Abv L pre) : UpdF (L + 1 + 1 + 1) o5 (pre ++ CLs L o1 o2 o3 o4 o5 o6 o7) (fun o' => pre ++ CLs L o1 o2 o3 o4 o' o6 o7) :=
  upd_pre (.tail (nneq (by omega)) (.tail (nneq (by omega)) (.tail (nneq (by omega)) (.tail (nneq (by omega)) (.head ((fun p hp => by
    simp only [List.mem_cons, List.not_mem_nil, or_false] at hp
    rcases hp with rfl | rfl <;> exact nneq (by omega)))))))) (abv_ne h (by simp [cad]))
theorem cellU6 (h : Abv L pre) : UpdF (L + 1 + 1) o6 (pre ++ CLs L o1 o2 o3 o4 o5 o6 o7) (fun o' => pre ++ CLs L o1 o2 o3 o4 o5 o' o7) :=
  upd_pre (.tail (nneq (by omega)) (.tail (nneq (by omega)) (.tail (nneq (by omega)) (.tail (nneq (by omega)) (.tail (nneq (by omega)) (.head ((fun p hp => by
    simp only [List.mem_cons, List.not_mem_nil, or_false] at hp
    rcases hp with rfl <;> exact nneq (by omega))))))))) (abv_ne h (by simp [cad]))
theorem cellU7 (h : Abv L pre) : UpdF (L + 1) o7 (pre ++ CLs L o1 o2 o3 o4 o5 o6 o7) (fun o' => pre ++ CLs L o1 o2 o3 o4 o5 o6 o') :=
  upd_pre (.tail (nneq (by omega)) (.tail (nneq (by omega)) (.tail (nneq (by omega)) (.tail (nneq (by omega)) (.tail (nneq (by omega)) (.tail (nneq (by omega)) (.head ((List.forall_mem_nil _))))))))) (abv_ne h (by simp [cad]))
end
end Mine

-- R6
namespace Mine
theorem topOff_R6 : True := by
  w_top off
  trivial
end Mine
namespace Mine
open PySem PySem.W PyProof.Rows PySem.Calls PySem.Spec
/-- the law's own def -/
noncomputable def lawFn (P : Params) : FuncData := match (KK P).lookup 196 with
  | some ⟨_, _, .func fd, _⟩ => fd
  | _ => fnOf "" "" ⟨[], [], none, [], [], none, []⟩ [] ⟨.function, [], false, false, []⟩ .none .none .none .none none .none .none
noncomputable def lawRest (P : Params) (k : Nat) : List Stmt := match (lawFn P).body with
  | .stmts b => b.drop k
  | _ => []
noncomputable def lawEnv (P : Params) (L : Addr) : Env := envOfC (Str.ofString "law") (lawFn P).scope L 196 (.ref 195)
/-- the law from a statement on -/
structure LGo (w : World) (A : Around) (s : Shared) (Q : Flow → Shared → Prop) (L : Addr) (h : Heap) (tk k : Nat) : Prop where
  go : wpAny (model PG w) (A.deeper (lawEnv w.params L)) (execs (lawRest w.params k) (lawEnv w.params L)) Q (fun _ _ => False) { s with heap := h, toks := tk }
theorem map1 {m : Str → Option Value} {x : Str} {v : Value} (e : m x = some v) : m = fun y => if y = x then some v else m y := by
  funext y
  split
  · next h => subst h; exact e
  · rfl
theorem fr_store {h₀ h h' : Heap} {L : Addr} {m m' : Str → Option Value} (F : Fr h₀ L h m) (hn : h'.Ns L m') (k : ∀ b o, b ≠ L → h.get? b = some o → h'.get? b = some o) : Fr h₀ L h' m' :=
  ⟨hn, fun b o e => k b o (Nat.ne_of_lt (Nat.lt_of_lt_of_le (Heap.lt_size e) F.above)) (F.keep b o e), F.above⟩
theorem nw_store {h₀ h h' : Heap} {L : Addr} {news : List (Addr × Obj)} (N : News h₀ L h news) (k : ∀ b o, b ≠ L → h.get? b = some o → h'.get? b = some o) : News h₀ L h' news :=
  fun p hp => ⟨k _ _ (N p hp).2.1 (N p hp).1, (N p hp).2⟩
theorem nw_add {h₀ h h' : Heap} {L D : Addr} {m : Str → Option Value} {ys : List Value} {news : List (Addr × Obj)} (F : Fr h₀ L h m) (N : News h₀ L h' news) (hD : h.objs.size ≤ D) (hl : h'.PlainList D (List.toArray ys)) : ∃ k, News h₀ L h' ((D, listOf (List.toArray ys) k) :: news) := by
  obtain ⟨k, e⟩ := hl
  exact ⟨k, addNews F N hD e⟩
theorem ints_step {f : Int → Int} {l : List Int} {ys : List Value} {i : Nat} {t : Tok} (h : IntsAre ys ((l.take i).map f)) (hi : i < l.length) : IntsAre (ys ++ [.int (f (l.getD i 0)) t]) ((l.take (i + 1)).map f) := by
  rw [List.take_add_one, List.getElem?_eq_getElem hi, List.map_append]
  have e : l.getD i 0 = l[i] := by simp [List.getD, List.getElem?_eq_getElem hi]
  rw [e]
  exact ints_snoc h
theorem ints_at {vs : List Value} {ns : List Int} (h : IntsAre vs ns) {i : Nat} {v : Value} (hv : vs[i]? = some v) : ∃ t, v = .int (ns.getD i 0) t := by
  obtain ⟨n, t, rfl, hn⟩ := ints_item h hv
  exact ⟨t, by simp [List.getD, hn]⟩
theorem ints_next {l : List Int} {ys : List Value} {i : Nat} {t : Tok} {x : Int} (h : IntsAre ys (l.take i)) (hi : i < l.length) (hx : x = l.getD i 0) : IntsAre (ys ++ [.int x t]) (l.take (i + 1)) := by
  rw [List.take_add_one, List.getElem?_eq_getElem hi]
  have e : x = l[i] := by rw [hx]; simp [List.getD, List.getElem?_eq_getElem hi]
  rw [e]
  exact ints_snoc h
theorem strs_next {l : List (List Nat)} {ys : List Value} {i : Nat} {t : Tok} {x : List Nat} (h : StrsAre ys ((l.take i).map tx)) (hi : i < l.length) (hx : x = l.getD i []) : StrsAre (ys ++ [.str (tx x) t]) ((l.take (i + 1)).map tx) := by
  rw [List.take_add_one, List.getElem?_eq_getElem hi, List.map_append]
  have e : x = l[i] := by rw [hx]; simp [List.getD, List.getElem?_eq_getElem hi]
  rw [e]
  exact StrsAre.append' h (.cons _ _ .nil)
theorem strs_at {vs : List Value} {l : List (List Nat)} (h : StrsAre vs (l.map tx)) {i : Nat} (hi : i < l.length) : ∃ t, vs[i]? = some (.str (tx (l.getD i [])) t) := by
  have e : (l.map tx)[i]? = some (tx (l.getD i [])) := by
    rw [List.getElem?_map, List.getElem?_eq_getElem hi]
    simp [List.getD, List.getElem?_eq_getElem hi]
  exact StrsAre.get h i _ e
theorem abv_new {h₀ h : Heap} {L D : Addr} {o : Obj} {news : List (Addr × Obj)} (N : News h₀ L h news) (hm : (L + 1 + 1 + 1 + 1 + 1 + 1 + 1, o) ∈ news) (hD : h.objs.size ≤ D) : L + 1 + 1 + 1 + 1 + 1 + 1 + 1 < D :=
  Nat.lt_of_lt_of_le (Heap.lt_size (N _ hm).1) hD
theorem cad_lt {h₀ h : Heap} {L : Addr} {m : Str → Option Value} {pre : List (Addr × Obj)} {o1 o2 o3 o4 o5 o6 o7 : Obj} (F : Fr h₀ L h m) (N : News h₀ L h (pre ++ CLs L o1 o2 o3 o4 o5 o6 o7)) : ∀ b ∈ cad L, ∃ o, h.get? b = some o := by
  intro b hb
  have g : ∀ q ∈ CLs L o1 o2 o3 o4 o5 o6 o7, ∃ o, h.get? q.1 = some o := fun q hq => ⟨_, (N q (List.mem_append_right _ hq)).1⟩
  simp only [cad, List.mem_cons, List.not_mem_nil, or_false] at hb
  rcases hb with rfl | rfl | rfl | rfl | rfl | rfl | rfl | rfl
  · obtain ⟨o, _, _, ho, _⟩ := F.ns; exact ⟨o, ho⟩
  · exact g (_, o1) (by simp)
  · exact g (_, o2) (by simp)
  · exact g (_, o3) (by simp)
  · exact g (_, o4) (by simp)
  · exact g (_, o5) (by simp)
  · exact g (_, o6) (by simp)
  · exact g (_, o7) (by simp)
theorem off_size {B B0 : List Addr} {h : Heap} {D : Addr} (hB : ∀ b ∈ B, ∃ o, h.get? b = some o) (hB0 : ∀ b ∈ B0, ∃ o, h.get? b = some o) (hD : h.objs.size ≤ D) : D ∉ B ++ B0 := fun hm => by
  rcases List.mem_append.mp hm with hm | hm
  · obtain ⟨o, ho⟩ := hB _ hm; exact Nat.lt_irrefl _ (Nat.lt_of_lt_of_le (Heap.lt_size ho) hD)
  · obtain ⟨o, ho⟩ := hB0 _ hm; exact Nat.lt_irrefl _ (Nat.lt_of_lt_of_le (Heap.lt_size ho) hD)
theorem off_none {B B0 : List Addr} {h : Heap} {D : Addr} (hB : ∀ b ∈ B, ∃ o, h.get? b = some o) (hB0 : ∀ b ∈ B0, ∃ o, h.get? b = some o) (hD : h.get? D = none) : D ∉ B ++ B0 := fun hm => by
  rcases List.mem_append.mp hm with hm | hm
  · obtain ⟨o, ho⟩ := hB _ hm; rw [hD] at ho; cases ho
  · obtain ⟨o, ho⟩ := hB0 _ hm; rw [hD] at ho; cases ho
theorem exi_kp {B : List Addr} {h h' : Heap} (hB : ∀ b ∈ B, ∃ o, h.get? b = some o) (k : Kp h h') : ∀ b ∈ B, ∃ o, h'.get? b = some o := fun b hb => by
  obtain ⟨o, ho⟩ := hB b hb; exact ⟨o, k b o ho⟩
theorem none_size {h0 h : Heap} {D : Addr} (k : Kp h0 h) (hD : h.objs.size ≤ D) : h0.get? D = none := by
  cases e : h0.get? D with
  | none => rfl
  | some o => exact absurd (Heap.lt_size (k _ _ e)) (Nat.not_lt.mpr hD)
theorem none_none {h0 h : Heap} {D : Addr} (k : Kp h0 h) (hD : h.get? D = none) : h0.get? D = none := by
  cases e : h0.get? D with
  | none => rfl
  | some o => rw [k _ _ e] at hD; cases hD
/-- the pairs of patterns -/
def lks : List (Nat × Nat) := [(0, 1), (0, 2), (0, 3), (1, 2), (1, 3), (2, 3)]
def lki (n : Nat) : Nat := (lks.getD n (0, 0)).1
def lkj (n : Nat) : Nat := (lks.getD n (0, 0)).2
theorem lk_lt : ∀ n < 6, lki n < 4 ∧ lkj n < 4 := by decide
/-- the listings laid together -/
def ldn (ns : List Int) (n : Nat) : List Nat := ovr (kp ns (lki n)) (kp ns (lkj n)) (rB ns)
def lad (ns : List Int) : List (List Nat) := [ldn ns 0, ldn ns 1, ldn ns 2, ldn ns 3, ldn ns 4, ldn ns 5]
theorem lad_at (ns : List Int) {n : Nat} (h : n < 6) : ldn ns n = (lad ns).getD n [] := by
  match n, h with
  | 0, _ => rfl
  | 1, _ => rfl
  | 2, _ => rfl
  | 3, _ => rfl
  | 4, _ => rfl
  | 5, _ => rfl
theorem LL.item {h0 h : Heap} {B : List Addr} {ys : List Value} {ns : List Int} (x : LL h0 B h ys (kpt ns)) {i : Nat} (hi : i < 4) : ∃ a vs, ys[i]? = some (.ref a) ∧ h.IsList a (List.toArray vs) ∧ StrsAre vs ((kp ns i).map fun c => tx [c]) := by
  rw [kpt_at ns hi]
  exact x.get (i := i) hi
theorem ll_four {h0 h : Heap} {L : Addr} {news : List (Addr × Obj)} {ns : List Int} {a0 a1 a2 a3 : Addr} {b0 b1 b2 b3 : Obj} {vs0 vs1 vs2 vs3 : List Value} {n0 n1 n2 n3 : Nat} (N : News h0 L h news)
    (p0 : (a0, b0) ∈ news) (p1 : (a1, b1) ∈ news) (p2 : (a2, b2) ∈ news) (p3 : (a3, b3) ∈ news)
    (c0 : b0.cls = .type "list") (e0 : b0.data = .seq (List.toArray vs0) n0) (S0 : StrsAre vs0 ((kp ns 0).map fun c => tx [c]))
    (c1 : b1.cls = .type "list") (e1 : b1.data = .seq (List.toArray vs1) n1) (S1 : StrsAre vs1 ((kp ns 1).map fun c => tx [c]))
    (c2 : b2.cls = .type "list") (e2 : b2.data = .seq (List.toArray vs2) n2) (S2 : StrsAre vs2 ((kp ns 2).map fun c => tx [c]))
    (c3 : b3.cls = .type "list") (e3 : b3.data = .seq (List.toArray vs3) n3) (S3 : StrsAre vs3 ((kp ns 3).map fun c => tx [c])) : LL h0 [] h [.ref a0, .ref a1, .ref a2, .ref a3] (kpt ns) :=
  .cons (N _ p0).2.2 (fun h => nomatch h) ⟨_, (N _ p0).1, c0, _, e0⟩ S0 (.cons (N _ p1).2.2 (fun h => nomatch h) ⟨_, (N _ p1).1, c1, _, e1⟩ S1
    (.cons (N _ p2).2.2 (fun h => nomatch h) ⟨_, (N _ p2).1, c2, _, e2⟩ S2 (.cons (N _ p3).2.2 (fun h => nomatch h) ⟨_, (N _ p3).1, c3, _, e3⟩ S3 .nil)))
/-- whether two patterns share a listing -/
def shn (ns : List Int) (n : Nat) : Bool := tak (kp ns (lkj n)) (ldn ns n)
def shs (ns : List Int) : List Bool := [shn ns 0, shn ns 1, shn ns 2, shn ns 3, shn ns 4, shn ns 5]
theorem shs_at (ns : List Int) {n : Nat} (h : n < 6) : shn ns n = (shs ns).getD n false := by
  match n, h with
  | 0, _ => rfl
  | 1, _ => rfl
  | 2, _ => rfl
  | 3, _ => rfl
  | 4, _ => rfl
  | 5, _ => rfl
theorem bools_next {l : List Bool} {ys : List Value} {i : Nat} {x : Bool} (h : ys = (l.take i).map Value.bool) (hi : i < l.length) (hx : x = l.getD i false) : ys ++ [.bool x] = (l.take (i + 1)).map Value.bool := by
  rw [List.take_add_one, List.getElem?_eq_getElem hi, List.map_append, h]
  have e : x = l[i] := by rw [hx]; simp [List.getD, List.getElem?_eq_getElem hi]
  rw [e]; rfl
theorem ldn_len (ns : List Int) (n : Nat) : (ldn ns n).length = 10 := ovr_len _ _ _
theorem lnk_item {h0 h : Heap} {L : Addr} {news : List (Addr × Obj)} {T0 T1 T2 T3 T4 T5 : Addr} {u0 u1 u2 u3 u4 u5 v0 v1 v2 v3 v4 v5 : Tok} (N : News h0 L h news)
    (m0 : (T0, { cls := .type "tuple", data := .seq #[.int 0 u0, .int 1 v0] }) ∈ news) (m1 : (T1, { cls := .type "tuple", data := .seq #[.int 0 u1, .int 2 v1] }) ∈ news)
    (m2 : (T2, { cls := .type "tuple", data := .seq #[.int 0 u2, .int 3 v2] }) ∈ news) (m3 : (T3, { cls := .type "tuple", data := .seq #[.int 1 u3, .int 2 v3] }) ∈ news)
    (m4 : (T4, { cls := .type "tuple", data := .seq #[.int 1 u4, .int 3 v4] }) ∈ news) (m5 : (T5, { cls := .type "tuple", data := .seq #[.int 2 u5, .int 3 v5] }) ∈ news) {n : Nat} (hn : n < 6) :
    ∃ T u v, [Value.ref T0, .ref T1, .ref T2, .ref T3, .ref T4, .ref T5][n]? = some (.ref T) ∧ IsTup h T (List.toArray [.int (lki n : Nat) u, .int (lkj n : Nat) v]) := by
  match n, hn with
  | 0, _ => exact ⟨T0, _, _, rfl, News.isTup N m0⟩
  | 1, _ => exact ⟨T1, _, _, rfl, News.isTup N m1⟩
  | 2, _ => exact ⟨T2, _, _, rfl, News.isTup N m2⟩
  | 3, _ => exact ⟨T3, _, _, rfl, News.isTup N m3⟩
  | 4, _ => exact ⟨T4, _, _, rfl, News.isTup N m4⟩
  | 5, _ => exact ⟨T5, _, _, rfl, News.isTup N m5⟩
/-- the threes of the listings laid together -/
def tri (n : Nat) : Nat := [0, 0, 1].getD n 0
def trj (n : Nat) : Nat := [1, 2, 2].getD n 0
def trk (n : Nat) : Nat := [3, 4, 5].getD n 0
theorem tr_lt : ∀ n < 3, tri n < 6 ∧ trj n < 6 ∧ trk n < 6 := by decide
def thn (ns : List Int) (n : Nat) : List Nat := thr (ldn ns (tri n)) (ldn ns (trj n)) (ldn ns (trk n))
def ths (ns : List Int) : List (List Nat) := [thn ns 0, thn ns 1, thn ns 2]
theorem ths_at (ns : List Int) {n : Nat} (h : n < 3) : thn ns n = (ths ns).getD n [] := by
  match n, h with
  | 0, _ => rfl
  | 1, _ => rfl
  | 2, _ => rfl
theorem thr_tx (a b c : List Nat) : ((List.range 10).map fun k => med ((tx a).cps.getD k 0) ((tx b).cps.getD k 0) ((tx c).cps.getD k 0)) = thr a b c := by
  simp [thr, tx, List.getD]
theorem thn_len (ns : List Int) (n : Nat) : (thn ns n).length = 10 := thr_len _ _ _
/-- the last listing -/
def tpl (ns : List Int) : List Nat := thr (thn ns 0) (thn ns 1) (thn ns 2)
theorem tpl_len (ns : List Int) : (tpl ns).length = 10 := thr_len _ _ _
/-- the signs of the three at a place -/
def tri3 (ns : List Int) (k : Nat) : List Nat := [(thn ns 0).getD k 0, (thn ns 1).getD k 0, (thn ns 2).getD k 0]
theorem chr_next {l : List Nat} {ys : List Value} {i c : Nat} {t : Tok} (h : StrsAre ys ((l.take i).map fun c => tx [c])) (hi : i < l.length) (hc : c = l.getD i 0) : StrsAre (ys ++ [.str (tx [c]) t]) ((l.take (i + 1)).map fun c => tx [c]) := by
  rw [List.take_add_one, List.getElem?_eq_getElem hi, List.map_append]
  have e : c = l[i] := by rw [hc]; simp [List.getD, List.getElem?_eq_getElem hi]
  rw [e]
  exact StrsAre.append' h (.cons _ _ .nil)
theorem nw_cell {h₀ h h' : Heap} {L C K : Addr} {m : Str → Option Value} {v : Option Value} {news : List (Addr × Obj)} (F : Fr h₀ L h m) (N : News h₀ C h' news) (hK : h.objs.size ≤ K) (hKC : K ≠ C) (hc : h'.IsCell K v) : ∃ o, o.data = .cell v ∧ News h₀ C h' ((K, o) :: news) := by
  obtain ⟨o, ho, hd⟩ := hc
  refine ⟨o, hd, fun p hp => ?_⟩
  rcases List.mem_cons.mp hp with rfl | hp
  · exact ⟨ho, hKC, Heap.get?_none_of_le (Nat.le_trans (Nat.le_trans F.above (Nat.le_of_lt F.ns.lt)) hK)⟩
  · exact N p hp
theorem tpl_top (ns : List Int) : tpl ns = topL (kp ns 0) (kp ns 1) (kp ns 2) (kp ns 3) (rB ns) := rfl
theorem tpl_row (ns : List Int) : Row (tpl ns) := by
  rw [tpl_top]
  exact top_row (row_A ns) (row_B ns) (sig_kp ns (by decide)) (sig_kp ns (by decide)) (sig_kp ns (by decide)) (sig_kp ns (by decide))
theorem bools_shape : ∀ bs : List Bool, PyData.canLayAll0 (bs.map PyData.bool) = true ∧ PyData.depthAll (bs.map PyData.bool) = 0
  | [] => ⟨rfl, rfl⟩
  | b :: r => by
    obtain ⟨h1, h2⟩ := bools_shape r
    refine ⟨?_, ?_⟩
    · show (true && PyData.canLayAll0 _) = true
      rw [h1]; rfl
    · show max 0 (PyData.depthAll _) = 0
      rw [h2]; rfl
theorem bools_read (h : Heap) : ∀ bs : List Bool, ReadsAll h (bs.map Value.bool) (bs.map PyData.bool) []
  | [] => .nil
  | b :: r => .cons (as := []) (bs := []) (.bool b) (bools_read h r)
theorem bools_any : ∀ bs : List Bool, (bs.map PyData.bool).any (fun y => PyData.eqv y (.bool false)) = bs.contains false
  | [] => rfl
  | b :: r => by
    rw [List.map_cons, List.any_cons, bools_any r, List.contains_cons]
    cases b <;> rfl
theorem in_bools {prog : Program} {w : World} {A : Around} {E : Value → Shared → Prop} {s : Shared} {D : Addr} {bs : List Bool} {Q : Value → Shared → Prop} (hl : s.heap.IsList D (List.toArray (bs.map Value.bool))) (hu : A.units + 65 < cLine)
    (h : Q (.bool (bs.contains false)) s) : wpAny (model prog w) A (compareOp .In (.bool false) (.ref D)) Q E s := by
  obtain ⟨o, ho, hc, n, hd⟩ := hl
  obtain ⟨h1, h2⟩ := bools_shape bs
  have sh : SeqAt.shaped (.list (bs.map PyData.bool)) = true := by
    show (PyData.canLayAll0 _ && decide (PyData.depthAll _ + 1 ≤ 64)) = true
    rw [h1, h2]; rfl
  refine SeqAt.in_list_reads (.list ho hc hd (by simpa using bools_read s.heap bs)) (.bool false) (SeqAt.canLay_of_shaped sh) rfl (room_in_shaped rfl hu) ?_
  rw [bools_any]; exact h
/-- which patterns take the last listing -/
def tkl (ns : List Int) : List Bool := [tak (kp ns 0) (tpl ns), tak (kp ns 1) (tpl ns), tak (kp ns 2) (tpl ns), tak (kp ns 3) (tpl ns)]
theorem tkl_at (ns : List Int) {n : Nat} (h : n < 4) : tak (kp ns n) (tpl ns) = (tkl ns).getD n false := by
  match n, h with
  | 0, _ => rfl
  | 1, _ => rfl
  | 2, _ => rfl
  | 3, _ => rfl
theorem some_apart (ns : List Int) (h : (shs ns).contains false = true) : (tkl ns).contains false = true := by
  have key : ∀ n < 6, shn ns n = false → tak (kp ns (lki n)) (tpl ns) = false ∨ tak (kp ns (lkj n)) (tpl ns) = false := fun n _ e => apart e
  have fin : ∀ i < 4, tak (kp ns i) (tpl ns) = false → (tkl ns).contains false = true := by
    intro i hi e
    rw [List.contains_iff_mem, tkl]
    match i, hi with
    | 0, _ => simp [e]
    | 1, _ => simp [e]
    | 2, _ => simp [e]
    | 3, _ => simp [e]
  have one : ∀ n < 6, shn ns n = false → (tkl ns).contains false = true := fun n hn e => (key n hn e).elim (fin _ (lk_lt n hn).1) (fin _ (lk_lt n hn).2)
  rw [List.contains_iff_mem, shs] at h
  simp only [List.mem_cons, List.not_mem_nil, or_false] at h
  rcases h with h | h | h | h | h | h
  · exact one 0 (by decide) h.symm
  · exact one 1 (by decide) h.symm
  · exact one 2 (by decide) h.symm
  · exact one 3 (by decide) h.symm
  · exact one 4 (by decide) h.symm
  · exact one 5 (by decide) h.symm
theorem all_share (ns : List Int) (h : ¬ (shs ns).contains false = true) : tpl ns = ovr (kp ns 0) (kp ns 1) (ovr (kp ns 2) (kp ns 3) (rB ns)) := by
  have hm : false ∉ shs ns := fun q => h (List.contains_iff_mem.mpr q)
  have tr : ∀ n < 6, shn ns n = true := by
    intro n hn
    cases e : shn ns n with
    | true => rfl
    | false =>
      exfalso
      apply hm
      rw [shs, ← e]
      match n, hn with
      | 0, _ => simp
      | 1, _ => simp
      | 2, _ => simp
      | 3, _ => simp
      | 4, _ => simp
      | 5, _ => simp
  rw [tpl_top]
  exact helly (tr 0 (by decide)) (tr 1 (by decide)) (tr 2 (by decide)) (tr 3 (by decide)) (tr 4 (by decide)) (tr 5 (by decide))
theorem row_23 (ns : List Int) : Row (ovr (kp ns 2) (kp ns 3) (rB ns)) :=
  row_mix (ovr_len _ _ _) (row_A ns) (row_B ns) (ovr_mix (sig_kp ns (by decide)) (sig_kp ns (by decide)) fun _ _ => .inr rfl)
theorem tri3_at (ns : List Int) (i : Nat) {j : Nat} (h : j < 3) : ((ths ns).getD j []).getD i 0 = (tri3 ns i).getD j 0 := by
  match j, h with
  | 0, _ => simp [ths, tri3]
  | 1, _ => simp [ths, tri3]
  | 2, _ => simp [ths, tri3]
end Mine

-- C26
namespace Mine
theorem topOff_C26 : True := by
  w_top off
  trivial
end Mine
namespace Mine
open PySem PySem.W PyProof.Rows PySem.Calls PySem.Spec
local macro_rules | `(tactic| walk_at "none such") => `(tactic| skip)
local macro_rules | `(tactic| walk_at "none such") => `(tactic| skip)
local macro_rules | `(tactic| walk_at "none such") => `(tactic| skip)
local macro_rules | `(tactic| walk_at "none such") => `(tactic| skip)
local macro_rules | `(tactic| walk_at "none such") => `(tactic| skip)
local macro_rules | `(tactic| walk_at "none such") => `(tactic| skip)
local macro_rules | `(tactic| walk_at "none such") => `(tactic| skip)
local macro_rules | `(tactic| walk_at "none such") => `(tactic| skip)
local macro_rules | `(tactic| walk_at "none such") => `(tactic| skip)
local macro_rules | `(tactic| walk_at "none such") => `(tactic| skip)
local macro_rules | `(tactic| walk_at "none such") => `(tactic| skip)
local macro_rules | `(tactic| walk_at "eval ListComp") => `(tactic| ((with_reducible refine' comp_eval ?hclos ?hcell ?hkind ?hnames ?hs ?_); (case hclos => with_unfolding_all rfl); (case hcell => decide); (case hkind => with_unfolding_all rfl); (case hnames => decide); (case hs => intro _; with_unfolding_all rfl)))
local macro_rules | `(tactic| walk_at "eval ListComp") => `(tactic| ((with_reducible apply comp_evalK); (case hclos => with_unfolding_all rfl); (case hcf => intro _; with_unfolding_all rfl); (case hpc => intro _; with_unfolding_all rfl); (case hkind => with_unfolding_all rfl); (case hnames => decide); (case hs => intro _; with_unfolding_all rfl)))
local macro_rules | `(tactic| walk_at "call ref") => `(tactic| (refine wpAny_call ?_))
local macro_rules | `(tactic| walk_at "exec Assign cons ListComp") => `(tactic| first
  | (refine' comp_assign ?hsw ?hclos ?hcell ?hkind ?hnames ?hs ?hy ?hp ?_; (case hsw => with_unfolding_all rfl); (case hclos => with_unfolding_all rfl); (case hcell => decide); (case hkind => with_unfolding_all rfl); (case hnames => decide); (case hs => intro _; with_unfolding_all rfl); (case hy => with_unfolding_all rfl); (case hp => with_unfolding_all rfl))
  | (refine wpAny_Assign_Name ?_ (by with_unfolding_all rfl)))
local macro_rules | `(tactic| walk_at "subscriptTail") => `(tactic| ((with_reducible show wpAny _ _ (subscriptTail (Expr.List _ _) _ _ _) _ _ _); refine Hold.stop ?_))
local macro_rules | `(tactic| walk_at "subscriptTail Name Constant ref int") => `(tactic| ((with_reducible show wpAny _ _ (subscriptTail _ _ (Value.ref _) (Value.int _ _)) _ _ _); refine Hold.stop ?_))
local macro_rules | `(tactic| walk_at "storeName") => `(tactic| (refine Hold.stop ?_))
local macro_rules | `(tactic| walk_at "binaryOp Add ref ref") => `(tactic| (refine Hold.stop ?_))

local macro_rules | `(tactic| walk_at "exec If") => `(tactic| (refine If_hold ?_))
local macro_rules | `(tactic| walk_at "compareOp In") => `(tactic| (refine Hold.stop ?_))

set_option maxHeartbeats 1600000 in
theorem law_11 {w : World} {p : Program} {loose : List Str} {mean : ExcName → Option Value} {mg mb : Str → Option Value} {A : Around} {s : Shared} {Q : Flow → Shared → Prop} {L : Addr} {h : Heap} {tk : Nat} {m : Str → Option Value} {o1 o2 o3 o4 o5 o6 o7 : Obj} {ns : List Int} {Ds Dl Dh : Addr} {a0 a1 a2 a3 : Addr} {b0 b1 b2 b3 : Obj} {vs0 vs1 vs2 vs3 : List Value} {n0 n1 n2 n3 : Nat} {ys0 hs0 : List Value} {ks kl kh : Nat} {tt : Tok} {tl : List Nat}
    (X : (KK w.params).In s.heap) (T : Top p loose mean mg mb s.heap) (hA : Rm A 6) (ret : ∀ h' tk', Kp s.heap h' → Q (.ret (.bool true)) { s with heap := h', toks := tk' })
    (htl : tl = tpl ns) (hls : StrsAre ys0 ([rA ns, rB ns].map tx)) (hsh : hs0 = (shs ns).map Value.bool) (hms : m (Str.ofString "shared") = some (.ref Dh)) (cb0 : b0.cls = .type "list") (eb0 : b0.data = .seq (List.toArray vs0) n0) (S0 : StrsAre vs0 ((kp ns 0).map fun c => tx [c])) (cb1 : b1.cls = .type "list") (eb1 : b1.data = .seq (List.toArray vs1) n1) (S1 : StrsAre vs1 ((kp ns 1).map fun c => tx [c])) (cb2 : b2.cls = .type "list") (eb2 : b2.data = .seq (List.toArray vs2) n2) (S2 : StrsAre vs2 ((kp ns 2).map fun c => tx [c])) (cb3 : b3.cls = .type "list") (eb3 : b3.data = .seq (List.toArray vs3) n3) (S3 : StrsAre vs3 ((kp ns 3).map fun c => tx [c]))
    (F : Fr s.heap L h m) (hP : Abv L [(Dh, listOf (List.toArray hs0) kh), (Ds, listOf (List.toArray [.ref a0, .ref a1, .ref a2, .ref a3]) ks), (a0, b0), (a1, b1), (a2, b2), (a3, b3), (Dl, listOf (List.toArray ys0) kl)]) (N : News s.heap L h [(Dh, listOf (List.toArray hs0) kh), (Ds, listOf (List.toArray [.ref a0, .ref a1, .ref a2, .ref a3]) ks), (a0, b0), (a1, b1), (a2, b2), (a3, b3), (Dl, listOf (List.toArray ys0) kl), (L + 1 + 1 + 1 + 1 + 1 + 1 + 1, o1), (L + 1 + 1 + 1 + 1 + 1 + 1, o2), (L + 1 + 1 + 1 + 1 + 1, o3), (L + 1 + 1 + 1 + 1, o4), (L + 1 + 1 + 1, o5), (L + 1 + 1, o6), (L + 1, o7)]) (d1 : o1.data = .cell (some (.str (tx tl) tt))) (d5 : o5.data = .cell (some (.ref Ds))) (d6 : o6.data = .cell (some (.ref Dl))) :
    LGo w A s Q L h tk 13 := by
  refine ⟨?_⟩
  have hA0 := hA
  obtain ⟨hh, hdp, hun⟩ := hA
  refine fill ?_
  k_fill
  intro _
  (with_unfolding_all show wpAny (model PG w) (A.deeper (envOfC _ (Scope.mk _ _ _ _ _) _ _ _)) (execs (_ :: _) (envOfC _ (Scope.mk _ _ _ _ _) _ _ _)) _ _ _)
  rw [map1 hms] at F
  have hlt0 : tl.length = 10 := by rw [htl]; exact tpl_len ns
  have hrow : Row tl := by rw [htl]; exact tpl_row ns
  try dsimp only
  try k_fold
  k_steps
  refine no_implicit_lambda% (c_back (A := A.deeper _) hlt0 (X.keeps (Fr.keep ‹_›)) (T.keeps (Fr.keep ‹_›)) (Rm.le (n := 5) (Rm.deeper hA0) (by decide)) fun t9 h9 tk9 k9 => ?_)
  rename Fr _ _ _ _ => F1
  rename News _ _ _ _ => N1
  replace F1 := F1.keeps k9
  replace N1 := N1.grown k9
  clear k9
  try dsimp only
  try k_fold
  k_steps
  refine no_implicit_lambda% (c_filemode (A := A.deeper _)  (X.keeps (Fr.keep ‹_›)) (T.keeps (Fr.keep ‹_›)) (Rm.le (n := 5) (Rm.deeper hA0) (by decide)) fun t9 h9 tk9 k9 => ?_)
  rename Fr _ _ _ _ => F1
  rename News _ _ _ _ => N1
  replace F1 := F1.keeps k9
  replace N1 := N1.grown k9
  clear k9
  try dsimp only
  try k_fold
  rw [fm_back hrow]
  k_steps
  rw [if_neg (by simp)]
  refine Hold.go ?_
  k_steps
  rename News _ _ _ _ => N2
  subst hsh
  refine Hold.go (in_bools (News.isList N2 (.head _)) (by show A.units + 3 + 65 < cLine; simp only [cLine]; omega) ?_)
  try dsimp only
  try k_fold
  k_steps
  by_cases hsf : (shs ns).contains false = true
  · rw [if_pos hsf]
    refine Hold.go ?_
    k_steps
    rename Fr _ _ _ _ => F1
    rename News _ _ _ _ => N1
    have hSL := ll_four N1 (.tail _ (.tail _ (.head _))) (.tail _ (.tail _ (.tail _ (.head _)))) (.tail _ (.tail _ (.tail _ (.tail _ (.head _))))) (.tail _ (.tail _ (.tail _ (.tail _ (.tail _ (.head _)))))) cb0 eb0 S0 cb1 eb1 S1 cb2 eb2 S2 cb3 eb3 S3
    refine' comp_list (fun i m => ∃ a, m (Str.ofString "signs") = some (.ref a) ∧ [Value.ref a0, .ref a1, .ref a2, .ref a3][i]? = some (.ref a)) (fun B i ys h => ys = ((tkl ns).take i).map Value.bool) ?hh ?hl ?hn ?bind (fun _ _ => rfl) (fun _ _ _ _ _ _ h => h) ?turn ?done
    case hh => exact hh
    case hl => exact News.isList N1 (.tail _ (.head _))
    case hn => exact Nat.le_of_ble_eq_true rfl
    case bind =>
      intro i v C hv _
      have hi : i < 4 := (Array.getElem?_eq_some_iff.mp hv).1
      obtain ⟨a, vs, ha, hla, hSa⟩ := hSL.item hi
      obtain rfl : v = .ref a := by
        have hv' : [Value.ref a0, .ref a1, .ref a2, .ref a3][i]? = some v := by simpa using hv
        rw [ha] at hv'; exact (Option.some.inj hv').symm
      exact (bind_name rfl rfl).imp fun m hm => ⟨a, hm, ha⟩
    case turn =>
      intro B i ys C h₃ tk₃ m₃ hi hJ hC hB hns hMM hk
      obtain ⟨a, hm, ha⟩ := hMM
      replace hi : i < 4 := hi
      obtain ⟨a', vs, ha', hla, hSa⟩ := hSL.item hi
      rw [ha] at ha'
      cases ha'
      have hla' := hla.at fun o e => hk _ o e
      have F3 := frC F1 hns hC hk
      have N3 := nwC N1 hC hk
      clear F1 N1
      unfold VTurnJ
      refine wpAny_tests_nil ?_
      simp only [if_true]
      try dsimp only
      try k_fold
      k_steps
      refine no_implicit_lambda% (c_takes (A := A.deeper _) hla' hSa (sig_kp ns hi).len hlt0 (X.keeps (Fr.keep ‹_›)) (T.keeps (Fr.keep ‹_›)) (Rm.le (n := 5) (Rm.deeper hA0) (by decide)) fun h9 tk9 k9 => ?_)
      rename Fr _ _ _ _ => F1
      rename News _ _ _ _ => N1
      replace F1 := F1.keeps k9
      replace N1 := N1.grown k9
      try dsimp only
      try k_fold
      k_steps
      · exact bools_next hJ hi (by rw [htl]; exact tkl_at ns hi)
      · exact keeps_of k9
    case done =>
      intro B D h' tk' ys hJ hD hl' hk'
      have F2 := F1.keeps hk'
      have hys : ys = (tkl ns).map Value.bool := hJ
      subst hys
      have hll := hl'.isList
      clear hJ
      try dsimp only
      try k_fold
      k_steps
      refine Hold.go (in_bools hll (by show A.units + 3 + 65 < cLine; simp only [cLine]; omega) ?_)
      rw [some_apart ns hsf]
      exact ret _ _ F2.keep
  · rw [if_neg hsf]
    refine Hold.go ?_
    have hSL := ll_four N2 (.tail _ (.tail _ (.head _))) (.tail _ (.tail _ (.tail _ (.head _)))) (.tail _ (.tail _ (.tail _ (.tail _ (.head _))))) (.tail _ (.tail _ (.tail _ (.tail _ (.tail _ (.head _)))))) cb0 eb0 S0 cb1 eb1 S1 cb2 eb2 S2 cb3 eb3 S3
    obtain ⟨p0, w0, g0, l0, q0⟩ := hSL.item (i := 0) (by decide)
    obtain ⟨p1, w1, g1, l1, q1⟩ := hSL.item (i := 1) (by decide)
    obtain ⟨p2, w2, g2, l2, q2⟩ := hSL.item (i := 2) (by decide)
    obtain ⟨p3, w3, g3, l3, q3⟩ := hSL.item (i := 3) (by decide)
    obtain ⟨tl, hlt⟩ := strs_at hls (i := 1) (by simp)
    k_steps
    rename News _ _ _ _ => N5
    refine Hold.go (item_list (News.isList N5 (.tail _ (.head _))) (by decide) (by decide) g0 ?_)
    try dsimp only
    try k_fold
    k_steps
    rename News _ _ _ _ => N5
    refine Hold.go (item_list (News.isList N5 (.tail _ (.head _))) (by decide) (by decide) g1 ?_)
    try dsimp only
    try k_fold
    k_steps
    rename News _ _ _ _ => N5
    refine Hold.go (item_list (News.isList N5 (.tail _ (.head _))) (by decide) (by decide) g2 ?_)
    try dsimp only
    try k_fold
    k_steps
    rename News _ _ _ _ => N5
    refine Hold.go (item_list (News.isList N5 (.tail _ (.head _))) (by decide) (by decide) g3 ?_)
    try dsimp only
    try k_fold
    k_steps
    rename News _ _ _ _ => N5
    refine Hold.go (item_list (News.isList N5 (.tail _ (.tail _ (.tail _ (.tail _ (.tail _ (.tail _ (.head _)))))))) (by decide) (by decide) hlt ?_)
    try dsimp only
    try k_fold
    k_steps
    refine no_implicit_lambda% (c_over (A := A.deeper _) l2 q2 (sig_kp ns (by decide)).len l3 q3 (sig_kp ns (by decide)).len (row_len (row_B ns)) (row_all (row_B ns)) (X.keeps (Fr.keep ‹_›)) (T.keeps (Fr.keep ‹_›)) (Rm.le (n := 5) (Rm.deeper hA0) (by decide)) fun t9 h9 tk9 k9 => ?_)
    rename Fr _ _ _ _ => F1
    rename News _ _ _ _ => N1
    replace F1 := F1.keeps k9
    replace N1 := N1.grown k9
    try dsimp only
    try k_fold
    replace l0 := l0.at fun o e => k9 _ o e
    replace l1 := l1.at fun o e => k9 _ o e
    k_steps
    refine no_implicit_lambda% (c_over (A := A.deeper _) l0 q0 (sig_kp ns (by decide)).len l1 q1 (sig_kp ns (by decide)).len (row_len (row_23 ns)) (row_all (row_23 ns)) (X.keeps (Fr.keep ‹_›)) (T.keeps (Fr.keep ‹_›)) (Rm.le (n := 5) (Rm.deeper hA0) (by decide)) fun t9 h9 tk9 k9 => ?_)
    rename Fr _ _ _ _ => F1
    rename News _ _ _ _ => N1
    replace F1 := F1.keeps k9
    replace N1 := N1.grown k9
    clear k9
    try dsimp only
    try k_fold
    k_steps
    rename Fr _ _ _ _ => F9
    rw [show ([rA ns, rB ns].getD 1 []) = rB ns from rfl, ← all_share ns hsf, htl, beq_self_eq_true]
    exact ret _ _ F9.keep


end Mine

-- C25
namespace Mine
theorem topOff_C25 : True := by
  w_top off
  trivial
end Mine
namespace Mine
open PySem PySem.W PyProof.Rows PySem.Calls PySem.Spec
local macro_rules | `(tactic| walk_at "eval ListComp") => `(tactic| ((with_reducible refine' comp_eval ?hclos ?hcell ?hkind ?hnames ?hs ?_); (case hclos => with_unfolding_all rfl); (case hcell => decide); (case hkind => with_unfolding_all rfl); (case hnames => decide); (case hs => intro _; with_unfolding_all rfl)))
local macro_rules | `(tactic| walk_at "eval ListComp") => `(tactic| ((with_reducible apply comp_evalK); (case hclos => with_unfolding_all rfl); (case hcf => intro _; with_unfolding_all rfl); (case hpc => intro _; with_unfolding_all rfl); (case hkind => with_unfolding_all rfl); (case hnames => decide); (case hs => intro _; with_unfolding_all rfl)))
local macro_rules | `(tactic| walk_at "call ref") => `(tactic| (refine wpAny_call ?_))
local macro_rules | `(tactic| walk_at "exec Assign cons ListComp") => `(tactic| first
  | (refine' comp_assign ?hsw ?hclos ?hcell ?hkind ?hnames ?hs ?hy ?hp ?_; (case hsw => with_unfolding_all rfl); (case hclos => with_unfolding_all rfl); (case hcell => decide); (case hkind => with_unfolding_all rfl); (case hnames => decide); (case hs => intro _; with_unfolding_all rfl); (case hy => with_unfolding_all rfl); (case hp => with_unfolding_all rfl))
  | (refine wpAny_Assign_Name ?_ (by with_unfolding_all rfl)))
local macro_rules | `(tactic| walk_at "subscriptTail") => `(tactic| ((with_reducible show wpAny _ _ (subscriptTail (Expr.List _ _) _ _ _) _ _ _); refine Hold.stop ?_))
local macro_rules | `(tactic| walk_at "subscriptTail") => `(tactic| ((with_reducible show wpAny _ _ (subscriptTail _ _ (Value.ref _) (Value.int _ _)) _ _ _); refine Hold.stop ?_))
local macro_rules | `(tactic| walk_at "storeName") => `(tactic| (refine Hold.stop ?_))
local macro_rules | `(tactic| walk_at "binaryOp Add ref ref") => `(tactic| (refine Hold.stop ?_))

set_option maxHeartbeats 1600000 in
theorem law_10 {w : World} {p : Program} {loose : List Str} {mean : ExcName → Option Value} {mg mb : Str → Option Value} {A : Around} {s : Shared} {Q : Flow → Shared → Prop} {L : Addr} {h : Heap} {tk : Nat} {m : Str → Option Value} {o1 o2 o3 o4 o5 o6 o7 : Obj} {ns : List Int} {Ds Dl Dh Dt : Addr} {a0 a1 a2 a3 : Addr} {b0 b1 b2 b3 : Obj} {vs0 vs1 vs2 vs3 : List Value} {n0 n1 n2 n3 : Nat} {ys0 hs0 ts0 : List Value} {ks kl kh kt : Nat}
    (X : (KK w.params).In s.heap) (T : Top p loose mean mg mb s.heap) (hA : Rm A 6) (ret : ∀ h' tk', Kp s.heap h' → Q (.ret (.bool true)) { s with heap := h', toks := tk' })
    (hls : StrsAre ys0 ([rA ns, rB ns].map tx)) (hsh : hs0 = (shs ns).map Value.bool) (hms : m (Str.ofString "shared") = some (.ref Dh)) (hth : StrsAre ts0 ((ths ns).map tx)) (cb0 : b0.cls = .type "list") (eb0 : b0.data = .seq (List.toArray vs0) n0) (S0 : StrsAre vs0 ((kp ns 0).map fun c => tx [c])) (cb1 : b1.cls = .type "list") (eb1 : b1.data = .seq (List.toArray vs1) n1) (S1 : StrsAre vs1 ((kp ns 1).map fun c => tx [c])) (cb2 : b2.cls = .type "list") (eb2 : b2.data = .seq (List.toArray vs2) n2) (S2 : StrsAre vs2 ((kp ns 2).map fun c => tx [c])) (cb3 : b3.cls = .type "list") (eb3 : b3.data = .seq (List.toArray vs3) n3) (S3 : StrsAre vs3 ((kp ns 3).map fun c => tx [c]))
    (F : Fr s.heap L h m) (hP : Abv L [(Dt, listOf (List.toArray ts0) kt), (Dh, listOf (List.toArray hs0) kh), (Ds, listOf (List.toArray [.ref a0, .ref a1, .ref a2, .ref a3]) ks), (a0, b0), (a1, b1), (a2, b2), (a3, b3), (Dl, listOf (List.toArray ys0) kl)]) (N : News s.heap L h [(Dt, listOf (List.toArray ts0) kt), (Dh, listOf (List.toArray hs0) kh), (Ds, listOf (List.toArray [.ref a0, .ref a1, .ref a2, .ref a3]) ks), (a0, b0), (a1, b1), (a2, b2), (a3, b3), (Dl, listOf (List.toArray ys0) kl), (L + 1 + 1 + 1 + 1 + 1 + 1 + 1, o1), (L + 1 + 1 + 1 + 1 + 1 + 1, o2), (L + 1 + 1 + 1 + 1 + 1, o3), (L + 1 + 1 + 1 + 1, o4), (L + 1 + 1 + 1, o5), (L + 1 + 1, o6), (L + 1, o7)]) (d1 : o1.data = .cell none) (d2 : o2.data = .cell (some (.ref Dt))) (d5 : o5.data = .cell (some (.ref Ds))) (d6 : o6.data = .cell (some (.ref Dl))) :
    LGo w A s Q L h tk 12 := by
  refine ⟨?_⟩
  have hA0 := hA
  obtain ⟨hh, hdp, hun⟩ := hA
  refine fill ?_
  k_fill
  intro _
  (with_unfolding_all show wpAny (model PG w) (A.deeper (envOfC _ (Scope.mk _ _ _ _ _) _ _ _)) (execs (_ :: _) (envOfC _ (Scope.mk _ _ _ _ _) _ _ _)) _ _ _)
  try dsimp only
  try k_fold
  k_steps
  rename IsRange _ _ _ _ _ _ _ _ => hr
  rename Fr _ _ _ _ => F1
  rename News _ _ _ _ => N1
  refine' comp_rngK (n := 10) (fun i ys => StrsAre ys (((tpl ns).take i).map fun c => tx [c])) ?hh ?hr ?hn ?hkind ?hx .nil ?turn ?done
  case hh => exact hh
  case hr => exact hr
  case hn => decide
  case hkind => rfl
  case hx => exact fun _ _ => rfl
  case turn =>
    intro i ys t C K h₃ tk₃ m₃ hi hG hC hK hKC hns hc hk
    have hi0 : 0 ≤ (i : Int) ∧ (i : Int) < 10 := ⟨Int.natCast_nonneg _, by omega⟩
    have F3 := frC F1 hns hC hk
    obtain ⟨oK, dK, N3⟩ := nw_cell F1 (nwC N1 hC hk) hK hKC hc
    clear F1 N1
    unfold VTurnJ
    refine wpAny_tests_nil ?_
    simp only [if_true]
    try dsimp only
    try k_fold
    k_steps
    rename Fr _ _ _ _ => F4
    rename News _ _ _ _ => N4
    refine' comp_list (fun j m => ∃ t, m (Str.ofString "row") = some (.str (tx ((ths ns).getD j [])) t)) (fun B j ys h => StrsAre ys (((tri3 ns i).take j).map fun c => tx [c])) ?hh2 ?hl2 ?hn2 ?bind2 (fun _ _ => .nil) (fun _ _ _ _ _ _ h => h) ?turn2 ?done2
    case hh2 => exact hh
    case hl2 => exact News.isList N4 (.tail _ (.head _))
    case hn2 => (rw [List.size_toArray, StrsAre.len_eq hth]; exact Nat.le_of_ble_eq_true rfl)
    case bind2 =>
      intro j v C' hv _
      have hj : j < 3 := by
        have := (Array.getElem?_eq_some_iff.mp hv).1
        rwa [List.size_toArray, StrsAre.len_eq hth] at this
      obtain ⟨t, ht⟩ := strs_at hth (i := j) hj
      obtain rfl : v = .str (tx ((ths ns).getD j [])) t := by
        have hv' : ts0[j]? = some v := by simpa using hv
        rw [ht] at hv'; exact (Option.some.inj hv').symm
      exact (bind_name rfl rfl).imp fun m hm => ⟨t, hm⟩
    case turn2 =>
      intro B j zs C' h₅ tk₅ m₅ hj hJ hC' hB hns' hMM hk'
      obtain ⟨tr, hm⟩ := hMM
      rw [List.size_toArray, StrsAre.len_eq hth] at hj
      replace hj : j < 3 := hj
      have hrl : ((ths ns).getD j []).length = 10 := by rw [← ths_at ns hj]; exact thn_len ns j
      have hrt : (tx ((ths ns).getD j [])).length = 10 := by rw [tx_len, hrl]
      have F5 := frC F4 hns' hC' hk'
      have N5 := nwC N4 hC' hk'
      clear F4 N4
      unfold VTurnJ
      refine wpAny_tests_nil ?_
      simp only [if_true]
      try dsimp only
      try k_fold
      k_steps
      · rw [tx_item (by omega)]
        exact chr_next hJ hj (tri3_at ns i hj)
      · exact keeps_of fun _ _ e => e
    case done2 =>
      intro B D h' tk' zs hJ hD hl' hk'
      have F5 := F4.keeps hk'
      have N5 := N4.grown hk'
      rw [List.size_toArray, StrsAre.len_eq hth] at hJ
      have hSm : StrsAre zs [⟨#[(thn ns 0).getD i 0]⟩, ⟨#[(thn ns 1).getD i 0]⟩, ⟨#[(thn ns 2).getD i 0]⟩] := hJ
      have hlm := hl'.isList
      clear F4 N4 hJ
      try dsimp only
      try k_fold
      k_steps
      refine no_implicit_lambda% (c_med_high (A := A.deeper _) hlm hSm (X.keeps (Fr.keep ‹_›)) (T.keeps (Fr.keep ‹_›)) (Rm.le (n := 5) (Rm.deeper hA0) (by decide)) fun t9 h9 tk9 k9 => ?_)
      rename Fr _ _ _ _ => F1
      rename News _ _ _ _ => N1
      replace F1 := F1.keeps k9
      replace N1 := N1.grown k9
      try dsimp only
      try k_fold
      k_steps
      · exact chr_next hG (by rw [tpl_len]; exact hi) (show med _ _ _ = _ from (thr_at hi).symm)
      · exact keeps_of (kp_trans hk' k9)
  case done =>
    intro D h' tk' ys hG hD hl' hk'
    have F2 := F1.keeps hk'
    have N2 := N1.grown hk'
    have hS : StrsAre ys ((tpl ns).map fun c => tx [c]) := by
      rwa [List.take_of_length_le (by rw [tpl_len]; exact Nat.le_refl _)] at hG
    clear F1 N1 hk' hG hr
    try dsimp only
    try k_fold
    k_steps
    refine join_signs hl'.isList hS (by rw [tpl_len]; decide) fun t9 k9 => ?_
    try dsimp only
    try k_fold
    k_steps
    refine Hold.go (store_cell F2 N2 (c := L + 1 + 1 + 1 + 1 + 1 + 1 + 1) rfl (cellU1 hP) d1 (fun h9 o1' F9 N9 dd1 k9 => ?_) rfl rfl)
    clear F2 N2 d1 k9
    replace N9 : News s.heap L h9 [(Dt, listOf (List.toArray ts0) kt), (Dh, listOf (List.toArray hs0) kh), (Ds, listOf (List.toArray [.ref a0, .ref a1, .ref a2, .ref a3]) ks), (a0, b0), (a1, b1), (a2, b2), (a3, b3), (Dl, listOf (List.toArray ys0) kl), (L + 1 + 1 + 1 + 1 + 1 + 1 + 1, o1'), (L + 1 + 1 + 1 + 1 + 1 + 1, o2), (L + 1 + 1 + 1 + 1 + 1, o3), (L + 1 + 1 + 1 + 1, o4), (L + 1 + 1 + 1, o5), (L + 1 + 1, o6), (L + 1, o7)] := N9
    dsimp only [qk]
    obtain ⟨e⟩ := law_11 X T hA0 ret rfl hls hsh hms cb0 eb0 S0 cb1 eb1 S1 cb2 eb2 S2 cb3 eb3 S3 F9 (fun p hp => hP p (.tail _ hp)) (fun p hp => N9 p (.tail _ hp)) dd1 d5 d6
    exact @e


end Mine

-- C24
namespace Mine
theorem topOff_C24 : True := by
  w_top off
  trivial
end Mine
namespace Mine
open PySem PySem.W PyProof.Rows PySem.Calls PySem.Spec
local macro_rules | `(tactic| walk_at "none such") => `(tactic| skip)
local macro_rules | `(tactic| walk_at "none such") => `(tactic| skip)
local macro_rules | `(tactic| walk_at "none such") => `(tactic| skip)
local macro_rules | `(tactic| walk_at "none such") => `(tactic| skip)
local macro_rules | `(tactic| walk_at "none such") => `(tactic| skip)
local macro_rules | `(tactic| walk_at "none such") => `(tactic| skip)
local macro_rules | `(tactic| walk_at "none such") => `(tactic| skip)
local macro_rules | `(tactic| walk_at "none such") => `(tactic| skip)
local macro_rules | `(tactic| walk_at "none such") => `(tactic| skip)
local macro_rules | `(tactic| walk_at "none such") => `(tactic| skip)
local macro_rules | `(tactic| walk_at "none such") => `(tactic| skip)
local macro_rules | `(tactic| walk_at "eval ListComp") => `(tactic| ((with_reducible refine' comp_eval ?hclos ?hcell ?hkind ?hnames ?hs ?_); (case hclos => with_unfolding_all rfl); (case hcell => decide); (case hkind => with_unfolding_all rfl); (case hnames => decide); (case hs => intro _; with_unfolding_all rfl)))
local macro_rules | `(tactic| walk_at "call ref") => `(tactic| (refine wpAny_call ?_))
local macro_rules | `(tactic| walk_at "exec Assign cons ListComp") => `(tactic| first
  | (refine' comp_assign ?hsw ?hclos ?hcell ?hkind ?hnames ?hs ?hy ?hp ?_; (case hsw => with_unfolding_all rfl); (case hclos => with_unfolding_all rfl); (case hcell => decide); (case hkind => with_unfolding_all rfl); (case hnames => decide); (case hs => intro _; with_unfolding_all rfl); (case hy => with_unfolding_all rfl); (case hp => with_unfolding_all rfl))
  | (refine wpAny_Assign_Name ?_ (by with_unfolding_all rfl)))
local macro_rules | `(tactic| walk_at "subscriptTail") => `(tactic| ((with_reducible show wpAny _ _ (subscriptTail (Expr.List _ _) _ _ _) _ _ _); refine Hold.stop ?_))
local macro_rules | `(tactic| walk_at "subscriptTail Name Name ref int") => `(tactic| ((with_reducible show wpAny _ _ (subscriptTail _ _ (Value.ref _) (Value.int _ _)) _ _ _); refine Hold.stop ?_))
local macro_rules | `(tactic| walk_at "storeName") => `(tactic| (refine Hold.stop ?_))
local macro_rules | `(tactic| walk_at "binaryOp Add ref ref") => `(tactic| (refine Hold.stop ?_))

set_option maxHeartbeats 1600000 in
theorem law_9 {w : World} {p : Program} {loose : List Str} {mean : ExcName → Option Value} {mg mb : Str → Option Value} {A : Around} {s : Shared} {Q : Flow → Shared → Prop} {L : Addr} {h : Heap} {tk : Nat} {m : Str → Option Value} {o1 o2 o3 o4 o5 o6 o7 : Obj} {ns : List Int} {Ds Dl Da Dh : Addr} {a0 a1 a2 a3 : Addr} {b0 b1 b2 b3 : Obj} {vs0 vs1 vs2 vs3 : List Value} {n0 n1 n2 n3 : Nat} {ys0 ls0 hs0 : List Value} {ks kl ka kh : Nat}
    (X : (KK w.params).In s.heap) (T : Top p loose mean mg mb s.heap) (hA : Rm A 6) (ret : ∀ h' tk', Kp s.heap h' → Q (.ret (.bool true)) { s with heap := h', toks := tk' })
    (hls : StrsAre ys0 ([rA ns, rB ns].map tx)) (hla : StrsAre ls0 ((lad ns).map tx)) (hsh : hs0 = (shs ns).map Value.bool) (hms : m (Str.ofString "shared") = some (.ref Dh)) (cb0 : b0.cls = .type "list") (eb0 : b0.data = .seq (List.toArray vs0) n0) (S0 : StrsAre vs0 ((kp ns 0).map fun c => tx [c])) (cb1 : b1.cls = .type "list") (eb1 : b1.data = .seq (List.toArray vs1) n1) (S1 : StrsAre vs1 ((kp ns 1).map fun c => tx [c])) (cb2 : b2.cls = .type "list") (eb2 : b2.data = .seq (List.toArray vs2) n2) (S2 : StrsAre vs2 ((kp ns 2).map fun c => tx [c])) (cb3 : b3.cls = .type "list") (eb3 : b3.data = .seq (List.toArray vs3) n3) (S3 : StrsAre vs3 ((kp ns 3).map fun c => tx [c]))
    (F : Fr s.heap L h m) (hP : Abv L [(Dh, listOf (List.toArray hs0) kh), (Da, listOf (List.toArray ls0) ka), (Ds, listOf (List.toArray [.ref a0, .ref a1, .ref a2, .ref a3]) ks), (a0, b0), (a1, b1), (a2, b2), (a3, b3), (Dl, listOf (List.toArray ys0) kl)]) (N : News s.heap L h [(Dh, listOf (List.toArray hs0) kh), (Da, listOf (List.toArray ls0) ka), (Ds, listOf (List.toArray [.ref a0, .ref a1, .ref a2, .ref a3]) ks), (a0, b0), (a1, b1), (a2, b2), (a3, b3), (Dl, listOf (List.toArray ys0) kl), (L + 1 + 1 + 1 + 1 + 1 + 1 + 1, o1), (L + 1 + 1 + 1 + 1 + 1 + 1, o2), (L + 1 + 1 + 1 + 1 + 1, o3), (L + 1 + 1 + 1 + 1, o4), (L + 1 + 1 + 1, o5), (L + 1 + 1, o6), (L + 1, o7)]) (d1 : o1.data = .cell none) (d2 : o2.data = .cell none) (d3 : o3.data = .cell (some (.ref Da))) (d5 : o5.data = .cell (some (.ref Ds))) (d6 : o6.data = .cell (some (.ref Dl))) :
    LGo w A s Q L h tk 11 := by
  refine ⟨?_⟩
  have hA0 := hA
  obtain ⟨hh, hdp, hun⟩ := hA
  refine fill ?_
  k_fill
  intro _
  (with_unfolding_all show wpAny (model PG w) (A.deeper (envOfC _ (Scope.mk _ _ _ _ _) _ _ _)) (execs (_ :: _) (envOfC _ (Scope.mk _ _ _ _ _) _ _ _)) _ _ _)
  try dsimp only
  try k_fold
  k_steps
  rename Fr _ _ _ _ => F1
  rename News _ _ _ _ => N1
  refine' comp_list (fun n m => ∃ t u v, m (Str.ofString "i") = some (.int (tri n : Nat) t) ∧ m (Str.ofString "j") = some (.int (trj n : Nat) u) ∧ m (Str.ofString "k") = some (.int (trk n : Nat) v)) (fun B i ys h => StrsAre ys (((ths ns).take i).map tx)) ?hh ?hl ?hn ?bind (fun _ _ => .nil) (fun _ _ _ _ _ _ h => h) ?turn ?done
  case hh => exact hh
  case hl => exact News.isList N1 (.head _)
  case hn => exact Nat.le_of_ble_eq_true rfl
  case bind =>
    intro i v C hv _
    have hi : i < 3 := (Array.getElem?_eq_some_iff.mp hv).1
    match i, hi, hv with
    | 0, _, hv =>
      cases hv
      have hT := News.isTup N1 (.tail _ (.tail _ (.tail _ (.head _))))
      exact Binds.imp (bind_tup3 (A := A.deeper _) hh rfl rfl rfl rfl (by decide) (by decide) (by decide) hT) fun m hm => ⟨_, _, _, hm.1, hm.2.1, hm.2.2⟩
    | 1, _, hv =>
      cases hv
      have hT := News.isTup N1 (.tail _ (.tail _ (.head _)))
      exact Binds.imp (bind_tup3 (A := A.deeper _) hh rfl rfl rfl rfl (by decide) (by decide) (by decide) hT) fun m hm => ⟨_, _, _, hm.1, hm.2.1, hm.2.2⟩
    | 2, _, hv =>
      cases hv
      have hT := News.isTup N1 (.tail _ (.head _))
      exact Binds.imp (bind_tup3 (A := A.deeper _) hh rfl rfl rfl rfl (by decide) (by decide) (by decide) hT) fun m hm => ⟨_, _, _, hm.1, hm.2.1, hm.2.2⟩
  case turn =>
    intro B i ys C h₃ tk₃ m₃ hi hJ hC hB hns hMM hk
    obtain ⟨t, u, v, hm, hm2, hm3⟩ := hMM
    replace hi : i < 3 := hi
    have htr := tr_lt i hi
    have htr0 : (0 ≤ (tri i : Int) ∧ (tri i : Int) < 6) ∧ (0 ≤ (trj i : Int) ∧ (trj i : Int) < 6) ∧ (0 ≤ (trk i : Int) ∧ (trk i : Int) < 6) := ⟨⟨Int.natCast_nonneg _, by omega⟩, ⟨Int.natCast_nonneg _, by omega⟩, Int.natCast_nonneg _, by omega⟩
    have F3 := frC F1 hns hC hk
    have N3 := nwC N1 hC hk
    clear F1 N1
    unfold VTurnJ
    refine wpAny_tests_nil ?_
    simp only [if_true]
    try dsimp only
    try k_fold
    k_steps
    obtain ⟨ta, ha⟩ := strs_at hla (i := tri i) htr.1
    obtain ⟨tb, hb⟩ := strs_at hla (i := trj i) htr.2.1
    obtain ⟨tc, hc⟩ := strs_at hla (i := trk i) htr.2.2
    rw [← lad_at ns htr.1] at ha
    rw [← lad_at ns htr.2.1] at hb
    rw [← lad_at ns htr.2.2] at hc
    refine Hold.go (item_list (News.isList N3 (.tail _ (.tail _ (.tail _ (.tail _ (.tail _ (.head _))))))) (by omega) (by omega) (v := _) (by rw [Int.toNat_natCast]; exact ha) ?_)
    try dsimp only
    try k_fold
    k_steps
    refine Hold.go (item_list (News.isList N3 (.tail _ (.tail _ (.tail _ (.tail _ (.tail _ (.head _))))))) (by omega) (by omega) (v := _) (by rw [Int.toNat_natCast]; exact hb) ?_)
    try dsimp only
    try k_fold
    k_steps
    refine Hold.go (item_list (News.isList N3 (.tail _ (.tail _ (.tail _ (.tail _ (.tail _ (.head _))))))) (by omega) (by omega) (v := _) (by rw [Int.toNat_natCast]; exact hc) ?_)
    try dsimp only
    try k_fold
    k_steps
    refine no_implicit_lambda% (c_third (A := A.deeper _) (by rw [tx_len]; exact ldn_len ns _) (by rw [tx_len]; exact ldn_len ns _) (by rw [tx_len]; exact ldn_len ns _) (X.keeps (Fr.keep ‹_›)) (T.keeps (Fr.keep ‹_›)) (Rm.le (n := 5) (Rm.deeper hA0) (by decide)) fun t9 h9 tk9 k9 => ?_)
    rename Fr _ _ _ _ => F1
    rename News _ _ _ _ => N1
    replace F1 := F1.keeps k9
    replace N1 := N1.grown k9
    try dsimp only
    try k_fold
    rw [thr_tx]
    k_steps
    · exact strs_next hJ hi (show thn ns i = _ from ths_at ns hi)
    · exact keeps_of k9
  case done =>
    intro B D h' tk' ys hJ hD hl' hk'
    have F2 := F1.keeps hk'
    have hPD := nca (abv_new N1 (.tail _ (.tail _ (.tail _ (.tail _ (.tail _ (.tail _ (.tail _ (.tail _ (.tail _ (.tail _ (.tail _ (.tail _ (.head _))))))))))))) hD)
    obtain ⟨kD, N2⟩ := nw_add F1 (N1.grown hk') hD hl'
    have hth : StrsAre ys ((ths ns).map tx) := hJ
    have hP2 : Abv L ((D, listOf (List.toArray ys) kD) :: [(Dh, listOf (List.toArray hs0) kh), (Da, listOf (List.toArray ls0) ka), (Ds, listOf (List.toArray [.ref a0, .ref a1, .ref a2, .ref a3]) ks), (a0, b0), (a1, b1), (a2, b2), (a3, b3), (Dl, listOf (List.toArray ys0) kl)]) := .cons hPD hP
    replace N2 : News s.heap L h' ([(D, listOf (List.toArray ys) kD), (Dh, listOf (List.toArray hs0) kh), (Da, listOf (List.toArray ls0) ka), (Ds, listOf (List.toArray [.ref a0, .ref a1, .ref a2, .ref a3]) ks), (a0, b0), (a1, b1), (a2, b2), (a3, b3), (Dl, listOf (List.toArray ys0) kl), (L + 1 + 1 + 1 + 1 + 1 + 1 + 1, o1), (L + 1 + 1 + 1 + 1 + 1 + 1, o2), (L + 1 + 1 + 1 + 1 + 1, o3), (L + 1 + 1 + 1 + 1, o4), (L + 1 + 1 + 1, o5), (L + 1 + 1, o6), (L + 1, o7)]) := fun p hp => by
      rcases List.mem_cons.mp hp with rfl | hp
      · exact N2 _ (.head _)
      · exact N2 p (.tail _ (.tail _ (.tail _ (.tail _ (.tail _ hp)))))
    clear F1 N1 hk' hl' hD hJ hPD
    try dsimp only
    try k_fold
    k_steps
    refine Hold.go (store_cell F2 N2 (c := L + 1 + 1 + 1 + 1 + 1 + 1) rfl (cellU2 hP2) d2 (fun h9 o2' F9 N9 dd2 k9 => ?_) rfl rfl)
    clear F2 N2 d2 k9
    replace N9 : News s.heap L h9 [(D, listOf (List.toArray ys) kD), (Dh, listOf (List.toArray hs0) kh), (Da, listOf (List.toArray ls0) ka), (Ds, listOf (List.toArray [.ref a0, .ref a1, .ref a2, .ref a3]) ks), (a0, b0), (a1, b1), (a2, b2), (a3, b3), (Dl, listOf (List.toArray ys0) kl), (L + 1 + 1 + 1 + 1 + 1 + 1 + 1, o1), (L + 1 + 1 + 1 + 1 + 1 + 1, o2'), (L + 1 + 1 + 1 + 1 + 1, o3), (L + 1 + 1 + 1 + 1, o4), (L + 1 + 1 + 1, o5), (L + 1 + 1, o6), (L + 1, o7)] := N9
    try dsimp only
    try dsimp only [qk]
    obtain ⟨e⟩ := law_10 X T hA0 ret hls hsh hms hth cb0 eb0 S0 cb1 eb1 S1 cb2 eb2 S2 cb3 eb3 S3 F9 (fun p hp => hP2 p (by
      rcases List.mem_cons.mp hp with rfl | hp
      · exact .head _
      · rcases List.mem_cons.mp hp with rfl | hp
        · exact .tail _ (.head _)
        · exact .tail _ (.tail _ (.tail _ hp)))) (fun p hp => N9 p (by
      rcases List.mem_cons.mp hp with rfl | hp
      · exact .head _
      · rcases List.mem_cons.mp hp with rfl | hp
        · exact .tail _ (.head _)
        · exact .tail _ (.tail _ (.tail _ hp)))) d1 dd2 d5 d6
    exact @e


end Mine

-- C23
namespace Mine
theorem topOff_C23 : True := by
  w_top off
  trivial
end Mine
namespace Mine
open PySem PySem.W PyProof.Rows PySem.Calls PySem.Spec
local macro_rules | `(tactic| walk_at "eval ListComp") => `(tactic| ((with_reducible refine' comp_eval ?hclos ?hcell ?hkind ?hnames ?hs ?_); (case hclos => with_unfolding_all rfl); (case hcell => decide); (case hkind => with_unfolding_all rfl); (case hnames => decide); (case hs => intro _; with_unfolding_all rfl)))
local macro_rules | `(tactic| walk_at "call ref") => `(tactic| (refine wpAny_call ?_))
local macro_rules | `(tactic| walk_at "exec Assign cons ListComp") => `(tactic| first
  | (refine' comp_assign ?hsw ?hclos ?hcell ?hkind ?hnames ?hs ?hy ?hp ?_; (case hsw => with_unfolding_all rfl); (case hclos => with_unfolding_all rfl); (case hcell => decide); (case hkind => with_unfolding_all rfl); (case hnames => decide); (case hs => intro _; with_unfolding_all rfl); (case hy => with_unfolding_all rfl); (case hp => with_unfolding_all rfl))
  | (refine wpAny_Assign_Name ?_ (by with_unfolding_all rfl)))
local macro_rules | `(tactic| walk_at "subscriptTail") => `(tactic| ((with_reducible show wpAny _ _ (subscriptTail (Expr.List _ _) _ _ _) _ _ _); refine Hold.stop ?_))
local macro_rules | `(tactic| walk_at "subscriptTail") => `(tactic| ((with_reducible show wpAny _ _ (subscriptTail _ _ (Value.ref _) (Value.int _ _)) _ _ _); refine Hold.stop ?_))
local macro_rules | `(tactic| walk_at "storeName") => `(tactic| (refine Hold.stop ?_))
local macro_rules | `(tactic| walk_at "binaryOp Add ref ref") => `(tactic| (refine Hold.stop ?_))

set_option maxHeartbeats 1600000 in
theorem law_8 {w : World} {p : Program} {loose : List Str} {mean : ExcName → Option Value} {mg mb : Str → Option Value} {A : Around} {s : Shared} {Q : Flow → Shared → Prop} {L : Addr} {h : Heap} {tk : Nat} {m : Str → Option Value} {o1 o2 o3 o4 o5 o6 o7 : Obj} {ns : List Int} {Ds Dl Da : Addr} {a0 a1 a2 a3 : Addr} {b0 b1 b2 b3 : Obj} {vs0 vs1 vs2 vs3 : List Value} {n0 n1 n2 n3 : Nat} {Dk T0 T1 T2 T3 T4 T5 : Addr} {u0 u1 u2 u3 u4 u5 v0 v1 v2 v3 v4 v5 : Tok} {kk : Nat} {ys0 ls0 : List Value} {ks kl ka : Nat}
    (X : (KK w.params).In s.heap) (T : Top p loose mean mg mb s.heap) (hA : Rm A 6) (ret : ∀ h' tk', Kp s.heap h' → Q (.ret (.bool true)) { s with heap := h', toks := tk' })
    (hls : StrsAre ys0 ([rA ns, rB ns].map tx)) (hla : StrsAre ls0 ((lad ns).map tx)) (cb0 : b0.cls = .type "list") (eb0 : b0.data = .seq (List.toArray vs0) n0) (S0 : StrsAre vs0 ((kp ns 0).map fun c => tx [c])) (cb1 : b1.cls = .type "list") (eb1 : b1.data = .seq (List.toArray vs1) n1) (S1 : StrsAre vs1 ((kp ns 1).map fun c => tx [c])) (cb2 : b2.cls = .type "list") (eb2 : b2.data = .seq (List.toArray vs2) n2) (S2 : StrsAre vs2 ((kp ns 2).map fun c => tx [c])) (cb3 : b3.cls = .type "list") (eb3 : b3.data = .seq (List.toArray vs3) n3) (S3 : StrsAre vs3 ((kp ns 3).map fun c => tx [c]))
    (F : Fr s.heap L h m) (hP : Abv L [(Da, listOf (List.toArray ls0) ka), (Dk, listOf #[.ref T0, .ref T1, .ref T2, .ref T3, .ref T4, .ref T5] kk), (T5, { cls := .type "tuple", data := .seq #[.int 2 u5, .int 3 v5] }), (T4, { cls := .type "tuple", data := .seq #[.int 1 u4, .int 3 v4] }), (T3, { cls := .type "tuple", data := .seq #[.int 1 u3, .int 2 v3] }), (T2, { cls := .type "tuple", data := .seq #[.int 0 u2, .int 3 v2] }), (T1, { cls := .type "tuple", data := .seq #[.int 0 u1, .int 2 v1] }), (T0, { cls := .type "tuple", data := .seq #[.int 0 u0, .int 1 v0] }), (Ds, listOf (List.toArray [.ref a0, .ref a1, .ref a2, .ref a3]) ks), (a0, b0), (a1, b1), (a2, b2), (a3, b3), (Dl, listOf (List.toArray ys0) kl)]) (N : News s.heap L h [(Da, listOf (List.toArray ls0) ka), (Dk, listOf #[.ref T0, .ref T1, .ref T2, .ref T3, .ref T4, .ref T5] kk), (T5, { cls := .type "tuple", data := .seq #[.int 2 u5, .int 3 v5] }), (T4, { cls := .type "tuple", data := .seq #[.int 1 u4, .int 3 v4] }), (T3, { cls := .type "tuple", data := .seq #[.int 1 u3, .int 2 v3] }), (T2, { cls := .type "tuple", data := .seq #[.int 0 u2, .int 3 v2] }), (T1, { cls := .type "tuple", data := .seq #[.int 0 u1, .int 2 v1] }), (T0, { cls := .type "tuple", data := .seq #[.int 0 u0, .int 1 v0] }), (Ds, listOf (List.toArray [.ref a0, .ref a1, .ref a2, .ref a3]) ks), (a0, b0), (a1, b1), (a2, b2), (a3, b3), (Dl, listOf (List.toArray ys0) kl), (L + 1 + 1 + 1 + 1 + 1 + 1 + 1, o1), (L + 1 + 1 + 1 + 1 + 1 + 1, o2), (L + 1 + 1 + 1 + 1 + 1, o3), (L + 1 + 1 + 1 + 1, o4), (L + 1 + 1 + 1, o5), (L + 1 + 1, o6), (L + 1, o7)]) (d1 : o1.data = .cell none) (d2 : o2.data = .cell none) (d3 : o3.data = .cell (some (.ref Da))) (d4 : o4.data = .cell (some (.ref Dk))) (d5 : o5.data = .cell (some (.ref Ds))) (d6 : o6.data = .cell (some (.ref Dl))) :
    LGo w A s Q L h tk 10 := by
  refine ⟨?_⟩
  have hA0 := hA
  obtain ⟨hh, hdp, hun⟩ := hA
  refine fill ?_
  k_fill
  intro _
  (with_unfolding_all show wpAny (model PG w) (A.deeper (envOfC _ (Scope.mk _ _ _ _ _) _ _ _)) (execs (_ :: _) (envOfC _ (Scope.mk _ _ _ _ _) _ _ _)) _ _ _)
  try dsimp only
  try k_fold
  k_steps
  rename IsRange _ _ _ _ _ _ _ _ => hr
  rename Fr _ _ _ _ => F1
  rename News _ _ _ _ => N1
  have hSL := ll_four N1 (.tail _ (.tail _ (.tail _ (.tail _ (.tail _ (.tail _ (.tail _ (.tail _ (.tail _ (.head _)))))))))) (.tail _ (.tail _ (.tail _ (.tail _ (.tail _ (.tail _ (.tail _ (.tail _ (.tail _ (.tail _ (.head _))))))))))) (.tail _ (.tail _ (.tail _ (.tail _ (.tail _ (.tail _ (.tail _ (.tail _ (.tail _ (.tail _ (.tail _ (.head _)))))))))))) (.tail _ (.tail _ (.tail _ (.tail _ (.tail _ (.tail _ (.tail _ (.tail _ (.tail _ (.tail _ (.tail _ (.tail _ (.head _))))))))))))) cb0 eb0 S0 cb1 eb1 S1 cb2 eb2 S2 cb3 eb3 S3
  refine' comp_rngS (fun n m => ∃ t, m (Str.ofString "n") = some (.int (n : Nat) t)) (fun B i ys h => ys = ((shs ns).take i).map Value.bool) ?hh ?hns ?hl ?hn ?bind (fun _ _ => rfl) (fun _ _ _ _ _ _ h => h) ?turn ?done
  case hh => exact hh
  case hns => exact F1.ns
  case hl => exact hr
  case hn => exact Nat.le_of_ble_eq_true rfl
  case bind =>
    intro i t C hi _
    exact (bind_name rfl rfl).imp fun m hm => ⟨t, hm⟩
  case turn =>
    intro B i ys C h₃ tk₃ m₃ hi hJ hC hB hns hMM hk
    obtain ⟨t, hm⟩ := hMM
    replace hi : i < 6 := hi
    have hi0 : 0 ≤ (i : Int) ∧ (i : Int) < 6 := ⟨Int.natCast_nonneg _, by omega⟩
    have hij := lk_lt i hi
    have hij0 : 0 ≤ (lki i : Int) ∧ (lki i : Int) < 4 ∧ 0 ≤ (lkj i : Int) ∧ (lkj i : Int) < 4 := ⟨Int.natCast_nonneg _, by omega, Int.natCast_nonneg _, by omega⟩
    have F3 := frC F1 hns hC hk
    have N3 := nwC N1 hC hk
    clear F1 N1
    unfold VTurnJ
    refine wpAny_tests_nil ?_
    simp only [if_true]
    try dsimp only
    try k_fold
    k_steps
    obtain ⟨Tn, u, v, hT, hTT⟩ := lnk_item N3 (.tail _ (.tail _ (.tail _ (.tail _ (.tail _ (.tail _ (.tail _ (.head _)))))))) (.tail _ (.tail _ (.tail _ (.tail _ (.tail _ (.tail _ (.head _))))))) (.tail _ (.tail _ (.tail _ (.tail _ (.tail _ (.head _)))))) (.tail _ (.tail _ (.tail _ (.tail _ (.head _))))) (.tail _ (.tail _ (.tail _ (.head _)))) (.tail _ (.tail _ (.head _))) hi
    obtain ⟨c, vc, hc, hlb, hSb⟩ := hSL.item hij.2
    have hlb' := hlb.at fun o e => hk _ o e
    obtain ⟨tl, hlt⟩ := strs_at hla (i := i) hi
    refine Hold.go (item_list (News.isList N3 (.tail _ (.head _))) (by omega) (by omega) (by rw [Int.toNat_natCast]; exact hT) ?_)
    try dsimp only
    try k_fold
    k_steps
    refine Hold.go (item_tupleT hTT (by decide) (by decide) (j := 1) rfl rfl ?_)
    try dsimp only
    try k_fold
    k_steps
    refine Hold.go (item_list (News.isList N3 (.tail _ (.tail _ (.tail _ (.tail _ (.tail _ (.tail _ (.tail _ (.tail _ (.head _)))))))))) (by omega) (by omega) (by rw [Int.toNat_natCast]; exact hc) ?_)
    try dsimp only
    try k_fold
    k_steps
    refine Hold.go (item_list (News.isList N3 (.head _)) (by omega) (by omega) (by rw [Int.toNat_natCast, ← lad_at ns hi] at *; exact hlt) ?_)
    try dsimp only
    try k_fold
    k_steps
    refine no_implicit_lambda% (c_takes (A := A.deeper _) hlb' hSb (sig_kp ns hij.2).len (ldn_len ns i) (X.keeps (Fr.keep ‹_›)) (T.keeps (Fr.keep ‹_›)) (Rm.le (n := 5) (Rm.deeper hA0) (by decide)) fun h9 tk9 k9 => ?_)
    rename Fr _ _ _ _ => F1
    rename News _ _ _ _ => N1
    replace F1 := F1.keeps k9
    replace N1 := N1.grown k9
    try dsimp only
    try k_fold
    k_steps
    · exact bools_next hJ hi (shs_at ns hi)
    · exact keeps_of k9
  case done =>
    intro B D h' tk' ys hJ hD hl' hn' hk'
    have F2 := fr_store F1 hn' hk'
    have hPD := nca (abv_new N1 (.tail _ (.tail _ (.tail _ (.tail _ (.tail _ (.tail _ (.tail _ (.tail _ (.tail _ (.tail _ (.tail _ (.tail _ (.tail _ (.tail _ (.head _))))))))))))))) hD)
    obtain ⟨kD, N2⟩ := nw_add F1 (nw_store N1 hk') hD hl'
    have hP2 : Abv L ((D, listOf (List.toArray ys) kD) :: [(Da, listOf (List.toArray ls0) ka), (Dk, listOf #[.ref T0, .ref T1, .ref T2, .ref T3, .ref T4, .ref T5] kk), (T5, { cls := .type "tuple", data := .seq #[.int 2 u5, .int 3 v5] }), (T4, { cls := .type "tuple", data := .seq #[.int 1 u4, .int 3 v4] }), (T3, { cls := .type "tuple", data := .seq #[.int 1 u3, .int 2 v3] }), (T2, { cls := .type "tuple", data := .seq #[.int 0 u2, .int 3 v2] }), (T1, { cls := .type "tuple", data := .seq #[.int 0 u1, .int 2 v1] }), (T0, { cls := .type "tuple", data := .seq #[.int 0 u0, .int 1 v0] }), (Ds, listOf (List.toArray [.ref a0, .ref a1, .ref a2, .ref a3]) ks), (a0, b0), (a1, b1), (a2, b2), (a3, b3), (Dl, listOf (List.toArray ys0) kl)]) := .cons hPD hP
    have hsh : ys = (shs ns).map Value.bool := hJ
    clear F1 N1 hk' hl' hD hJ hPD hn' hr hSL
    dsimp only
    have hP3 : Abv L [(D, listOf (List.toArray ys) kD), (Da, listOf (List.toArray ls0) ka), (Ds, listOf (List.toArray [.ref a0, .ref a1, .ref a2, .ref a3]) ks), (a0, b0), (a1, b1), (a2, b2), (a3, b3), (Dl, listOf (List.toArray ys0) kl)] := fun p hp => hP2 p (by
      rcases List.mem_cons.mp hp with rfl | hp
      · exact .head _
      · rcases List.mem_cons.mp hp with rfl | hp
        · exact .tail _ (.head _)
        · exact .tail _ (.tail _ (.tail _ (.tail _ (.tail _ (.tail _ (.tail _ (.tail _ (.tail _ hp)))))))))
    have N3 : News s.heap L h' [(D, listOf (List.toArray ys) kD), (Da, listOf (List.toArray ls0) ka), (Ds, listOf (List.toArray [.ref a0, .ref a1, .ref a2, .ref a3]) ks), (a0, b0), (a1, b1), (a2, b2), (a3, b3), (Dl, listOf (List.toArray ys0) kl), (L + 1 + 1 + 1 + 1 + 1 + 1 + 1, o1), (L + 1 + 1 + 1 + 1 + 1 + 1, o2), (L + 1 + 1 + 1 + 1 + 1, o3), (L + 1 + 1 + 1 + 1, o4), (L + 1 + 1 + 1, o5), (L + 1 + 1, o6), (L + 1, o7)] := fun p hp => N2 p (by
      rcases List.mem_cons.mp hp with rfl | hp
      · exact .head _
      · rcases List.mem_cons.mp hp with rfl | hp
        · exact .tail _ (.head _)
        · exact .tail _ (.tail _ (.tail _ (.tail _ (.tail _ (.tail _ (.tail _ (.tail _ (.tail _ hp)))))))))
    have hms : (fun z => if z = Str.ofString "shared" then some (Value.ref D) else m z) (Str.ofString "shared") = some (.ref D) := by simp
    obtain ⟨e⟩ := law_9 (m := fun z => if z = Str.ofString "shared" then some (.ref D) else m z) X T hA0 ret hls hla hsh hms cb0 eb0 S0 cb1 eb1 S1 cb2 eb2 S2 cb3 eb3 S3 F2 hP3 N3 d1 d2 d3 d5 d6
    exact @e


end Mine

-- C22
namespace Mine
theorem topOff_C22 : True := by
  w_top off
  trivial
end Mine
namespace Mine
open PySem PySem.W PyProof.Rows PySem.Calls PySem.Spec
local macro_rules | `(tactic| walk_at "none such") => `(tactic| skip)
local macro_rules | `(tactic| walk_at "none such") => `(tactic| skip)
local macro_rules | `(tactic| walk_at "none such") => `(tactic| skip)
local macro_rules | `(tactic| walk_at "none such") => `(tactic| skip)
local macro_rules | `(tactic| walk_at "none such") => `(tactic| skip)
local macro_rules | `(tactic| walk_at "none such") => `(tactic| skip)
local macro_rules | `(tactic| walk_at "none such") => `(tactic| skip)
local macro_rules | `(tactic| walk_at "none such") => `(tactic| skip)
local macro_rules | `(tactic| walk_at "none such") => `(tactic| skip)
local macro_rules | `(tactic| walk_at "none such") => `(tactic| skip)
local macro_rules | `(tactic| walk_at "none such") => `(tactic| skip)
local macro_rules | `(tactic| walk_at "eval ListComp") => `(tactic| ((with_reducible refine' comp_eval ?hclos ?hcell ?hkind ?hnames ?hs ?_); (case hclos => with_unfolding_all rfl); (case hcell => decide); (case hkind => with_unfolding_all rfl); (case hnames => decide); (case hs => intro _; with_unfolding_all rfl)))
local macro_rules | `(tactic| walk_at "call ref") => `(tactic| (refine wpAny_call ?_))
local macro_rules | `(tactic| walk_at "exec Assign cons ListComp") => `(tactic| first
  | (refine' comp_assign ?hsw ?hclos ?hcell ?hkind ?hnames ?hs ?hy ?hp ?_; (case hsw => with_unfolding_all rfl); (case hclos => with_unfolding_all rfl); (case hcell => decide); (case hkind => with_unfolding_all rfl); (case hnames => decide); (case hs => intro _; with_unfolding_all rfl); (case hy => with_unfolding_all rfl); (case hp => with_unfolding_all rfl))
  | (refine wpAny_Assign_Name ?_ (by with_unfolding_all rfl)))
local macro_rules | `(tactic| walk_at "subscriptTail") => `(tactic| ((with_reducible show wpAny _ _ (subscriptTail (Expr.List _ _) _ _ _) _ _ _); refine Hold.stop ?_))
local macro_rules | `(tactic| walk_at "subscriptTail") => `(tactic| ((with_reducible show wpAny _ _ (subscriptTail _ _ (Value.ref _) (Value.int _ _)) _ _ _); refine Hold.stop ?_))
local macro_rules | `(tactic| walk_at "storeName") => `(tactic| (refine Hold.stop ?_))
local macro_rules | `(tactic| walk_at "binaryOp Add ref ref") => `(tactic| (refine Hold.stop ?_))

set_option maxHeartbeats 1600000 in
theorem law_7 {w : World} {p : Program} {loose : List Str} {mean : ExcName → Option Value} {mg mb : Str → Option Value} {A : Around} {s : Shared} {Q : Flow → Shared → Prop} {L : Addr} {h : Heap} {tk : Nat} {m : Str → Option Value} {o1 o2 o3 o4 o5 o6 o7 : Obj} {ns : List Int} {Ds Dl : Addr} {a0 a1 a2 a3 : Addr} {b0 b1 b2 b3 : Obj} {vs0 vs1 vs2 vs3 : List Value} {n0 n1 n2 n3 : Nat} {Dk T0 T1 T2 T3 T4 T5 : Addr} {u0 u1 u2 u3 u4 u5 v0 v1 v2 v3 v4 v5 : Tok} {kk : Nat} {ys0 : List Value} {ks kl : Nat}
    (X : (KK w.params).In s.heap) (T : Top p loose mean mg mb s.heap) (hA : Rm A 6) (ret : ∀ h' tk', Kp s.heap h' → Q (.ret (.bool true)) { s with heap := h', toks := tk' })
    (hls : StrsAre ys0 ([rA ns, rB ns].map tx)) (cb0 : b0.cls = .type "list") (eb0 : b0.data = .seq (List.toArray vs0) n0) (S0 : StrsAre vs0 ((kp ns 0).map fun c => tx [c])) (cb1 : b1.cls = .type "list") (eb1 : b1.data = .seq (List.toArray vs1) n1) (S1 : StrsAre vs1 ((kp ns 1).map fun c => tx [c])) (cb2 : b2.cls = .type "list") (eb2 : b2.data = .seq (List.toArray vs2) n2) (S2 : StrsAre vs2 ((kp ns 2).map fun c => tx [c])) (cb3 : b3.cls = .type "list") (eb3 : b3.data = .seq (List.toArray vs3) n3) (S3 : StrsAre vs3 ((kp ns 3).map fun c => tx [c]))
    (F : Fr s.heap L h m) (hP : Abv L [(Dk, listOf #[.ref T0, .ref T1, .ref T2, .ref T3, .ref T4, .ref T5] kk), (T5, { cls := .type "tuple", data := .seq #[.int 2 u5, .int 3 v5] }), (T4, { cls := .type "tuple", data := .seq #[.int 1 u4, .int 3 v4] }), (T3, { cls := .type "tuple", data := .seq #[.int 1 u3, .int 2 v3] }), (T2, { cls := .type "tuple", data := .seq #[.int 0 u2, .int 3 v2] }), (T1, { cls := .type "tuple", data := .seq #[.int 0 u1, .int 2 v1] }), (T0, { cls := .type "tuple", data := .seq #[.int 0 u0, .int 1 v0] }), (Ds, listOf (List.toArray [.ref a0, .ref a1, .ref a2, .ref a3]) ks), (a0, b0), (a1, b1), (a2, b2), (a3, b3), (Dl, listOf (List.toArray ys0) kl)]) (N : News s.heap L h [(Dk, listOf #[.ref T0, .ref T1, .ref T2, .ref T3, .ref T4, .ref T5] kk), (T5, { cls := .type "tuple", data := .seq #[.int 2 u5, .int 3 v5] }), (T4, { cls := .type "tuple", data := .seq #[.int 1 u4, .int 3 v4] }), (T3, { cls := .type "tuple", data := .seq #[.int 1 u3, .int 2 v3] }), (T2, { cls := .type "tuple", data := .seq #[.int 0 u2, .int 3 v2] }), (T1, { cls := .type "tuple", data := .seq #[.int 0 u1, .int 2 v1] }), (T0, { cls := .type "tuple", data := .seq #[.int 0 u0, .int 1 v0] }), (Ds, listOf (List.toArray [.ref a0, .ref a1, .ref a2, .ref a3]) ks), (a0, b0), (a1, b1), (a2, b2), (a3, b3), (Dl, listOf (List.toArray ys0) kl), (L + 1 + 1 + 1 + 1 + 1 + 1 + 1, o1), (L + 1 + 1 + 1 + 1 + 1 + 1, o2), (L + 1 + 1 + 1 + 1 + 1, o3), (L + 1 + 1 + 1 + 1, o4), (L + 1 + 1 + 1, o5), (L + 1 + 1, o6), (L + 1, o7)]) (d1 : o1.data = .cell none) (d2 : o2.data = .cell none) (d3 : o3.data = .cell none) (d4 : o4.data = .cell (some (.ref Dk))) (d5 : o5.data = .cell (some (.ref Ds))) (d6 : o6.data = .cell (some (.ref Dl))) :
    LGo w A s Q L h tk 9 := by
  refine ⟨?_⟩
  have hA0 := hA
  obtain ⟨hh, hdp, hun⟩ := hA
  refine fill ?_
  k_fill
  intro _
  (with_unfolding_all show wpAny (model PG w) (A.deeper (envOfC _ (Scope.mk _ _ _ _ _) _ _ _)) (execs (_ :: _) (envOfC _ (Scope.mk _ _ _ _ _) _ _ _)) _ _ _)
  have hSL := ll_four N (.tail _ (.tail _ (.tail _ (.tail _ (.tail _ (.tail _ (.tail _ (.tail _ (.head _))))))))) (.tail _ (.tail _ (.tail _ (.tail _ (.tail _ (.tail _ (.tail _ (.tail _ (.tail _ (.head _)))))))))) (.tail _ (.tail _ (.tail _ (.tail _ (.tail _ (.tail _ (.tail _ (.tail _ (.tail _ (.tail _ (.head _))))))))))) (.tail _ (.tail _ (.tail _ (.tail _ (.tail _ (.tail _ (.tail _ (.tail _ (.tail _ (.tail _ (.tail _ (.head _)))))))))))) cb0 eb0 S0 cb1 eb1 S1 cb2 eb2 S2 cb3 eb3 S3
  try dsimp only
  try k_fold
  k_steps
  rename Fr _ _ _ _ => F1
  rename News _ _ _ _ => N1
  refine' comp_list (fun n m => ∃ t u, m (Str.ofString "i") = some (.int (lki n : Nat) t) ∧ m (Str.ofString "j") = some (.int (lkj n : Nat) u)) (fun B i ys h => StrsAre ys (((lad ns).take i).map tx)) ?hh ?hl ?hn ?bind (fun _ _ => .nil) (fun _ _ _ _ _ _ h => h) ?turn ?done
  case hh => exact hh
  case hl => exact News.isList N1 (.head _)
  case hn => exact Nat.le_of_ble_eq_true rfl
  case bind =>
    intro i v C hv _
    have hi : i < 6 := (Array.getElem?_eq_some_iff.mp hv).1
    match i, hi, hv with
    | 0, _, hv =>
      cases hv
      have hT := News.isTup N1 (.tail _ (.tail _ (.tail _ (.tail _ (.tail _ (.tail _ (.head _)))))))
      exact Binds.imp (bind_tup2 (A := A.deeper _) hh rfl rfl rfl (by decide) hT) fun m hm => ⟨_, _, hm.1, hm.2⟩
    | 1, _, hv =>
      cases hv
      have hT := News.isTup N1 (.tail _ (.tail _ (.tail _ (.tail _ (.tail _ (.head _))))))
      exact Binds.imp (bind_tup2 (A := A.deeper _) hh rfl rfl rfl (by decide) hT) fun m hm => ⟨_, _, hm.1, hm.2⟩
    | 2, _, hv =>
      cases hv
      have hT := News.isTup N1 (.tail _ (.tail _ (.tail _ (.tail _ (.head _)))))
      exact Binds.imp (bind_tup2 (A := A.deeper _) hh rfl rfl rfl (by decide) hT) fun m hm => ⟨_, _, hm.1, hm.2⟩
    | 3, _, hv =>
      cases hv
      have hT := News.isTup N1 (.tail _ (.tail _ (.tail _ (.head _))))
      exact Binds.imp (bind_tup2 (A := A.deeper _) hh rfl rfl rfl (by decide) hT) fun m hm => ⟨_, _, hm.1, hm.2⟩
    | 4, _, hv =>
      cases hv
      have hT := News.isTup N1 (.tail _ (.tail _ (.head _)))
      exact Binds.imp (bind_tup2 (A := A.deeper _) hh rfl rfl rfl (by decide) hT) fun m hm => ⟨_, _, hm.1, hm.2⟩
    | 5, _, hv =>
      cases hv
      have hT := News.isTup N1 (.tail _ (.head _))
      exact Binds.imp (bind_tup2 (A := A.deeper _) hh rfl rfl rfl (by decide) hT) fun m hm => ⟨_, _, hm.1, hm.2⟩
  case turn =>
    intro B i ys C h₃ tk₃ m₃ hi hJ hC hB hns hMM hk
    obtain ⟨t, u, hm, hm2⟩ := hMM
    replace hi : i < 6 := hi
    have hij := lk_lt i hi
    have hij0 : 0 ≤ (lki i : Int) ∧ (lki i : Int) < 4 ∧ 0 ≤ (lkj i : Int) ∧ (lkj i : Int) < 4 := ⟨Int.natCast_nonneg _, by omega, Int.natCast_nonneg _, by omega⟩
    have F3 := frC F1 hns hC hk
    have N3 := nwC N1 hC hk
    clear F1 N1
    unfold VTurnJ
    refine wpAny_tests_nil ?_
    simp only [if_true]
    try dsimp only
    try k_fold
    k_steps
    obtain ⟨a, va, ha, hla, hSa⟩ := hSL.item hij.1
    obtain ⟨c, vc, hc, hlb, hSb⟩ := hSL.item hij.2
    have hla' := hla.at fun o e => hk _ o e
    have hlb' := hlb.at fun o e => hk _ o e
    obtain ⟨tl, hlt⟩ := strs_at hls (i := 1) (by simp)
    rename News _ _ _ _ => N5
    refine Hold.go (item_list (News.isList N5 (.tail _ (.tail _ (.tail _ (.tail _ (.tail _ (.tail _ (.tail _ (.head _))))))))) (by omega) (by omega) (by rw [Int.toNat_natCast]; exact ha) ?_)
    try dsimp only
    try k_fold
    k_steps
    rename News _ _ _ _ => N5
    refine Hold.go (item_list (News.isList N5 (.tail _ (.tail _ (.tail _ (.tail _ (.tail _ (.tail _ (.tail _ (.head _))))))))) (by omega) (by omega) (by rw [Int.toNat_natCast]; exact hc) ?_)
    try dsimp only
    try k_fold
    k_steps
    rename News _ _ _ _ => N5
    refine Hold.go (item_list (News.isList N5 (.tail _ (.tail _ (.tail _ (.tail _ (.tail _ (.tail _ (.tail _ (.tail _ (.tail _ (.tail _ (.tail _ (.tail _ (.head _)))))))))))))) (by decide) (by decide) hlt ?_)
    try dsimp only
    try k_fold
    k_steps
    refine no_implicit_lambda% (c_over (A := A.deeper _) hla' hSa (sig_kp ns hij.1).len hlb' hSb (sig_kp ns hij.2).len (row_len (row_B ns)) (row_all (row_B ns)) (X.keeps (Fr.keep ‹_›)) (T.keeps (Fr.keep ‹_›)) (Rm.le (n := 5) (Rm.deeper hA0) (by decide)) fun t9 h9 tk9 k9 => ?_)
    rename Fr _ _ _ _ => F1
    rename News _ _ _ _ => N1
    replace F1 := F1.keeps k9
    replace N1 := N1.grown k9
    try dsimp only
    try k_fold
    k_steps
    · exact strs_next hJ hi (show ldn ns i = _ from lad_at ns hi)
    · exact keeps_of k9
  case done =>
    intro B D h' tk' ys hJ hD hl' hk'
    have F2 := F1.keeps hk'
    have hPD := nca (abv_new N1 (.tail _ (.tail _ (.tail _ (.tail _ (.tail _ (.tail _ (.tail _ (.tail _ (.tail _ (.tail _ (.tail _ (.tail _ (.tail _ (.head _)))))))))))))) hD)
    obtain ⟨kD, N2⟩ := nw_add F1 (N1.grown hk') hD hl'
    have hla : StrsAre ys ((lad ns).map tx) := hJ
    have hP2 : Abv L ((D, listOf (List.toArray ys) kD) :: [(Dk, listOf #[.ref T0, .ref T1, .ref T2, .ref T3, .ref T4, .ref T5] kk), (T5, { cls := .type "tuple", data := .seq #[.int 2 u5, .int 3 v5] }), (T4, { cls := .type "tuple", data := .seq #[.int 1 u4, .int 3 v4] }), (T3, { cls := .type "tuple", data := .seq #[.int 1 u3, .int 2 v3] }), (T2, { cls := .type "tuple", data := .seq #[.int 0 u2, .int 3 v2] }), (T1, { cls := .type "tuple", data := .seq #[.int 0 u1, .int 2 v1] }), (T0, { cls := .type "tuple", data := .seq #[.int 0 u0, .int 1 v0] }), (Ds, listOf (List.toArray [.ref a0, .ref a1, .ref a2, .ref a3]) ks), (a0, b0), (a1, b1), (a2, b2), (a3, b3), (Dl, listOf (List.toArray ys0) kl)]) := .cons hPD hP
    clear F1 N1 hk' hl' hD hJ hSL hPD
    try dsimp only
    try k_fold
    k_steps
    refine Hold.go (store_cell F2 N2 (c := L + 1 + 1 + 1 + 1 + 1) rfl (cellU3 hP2) d3 (fun h9 o3' F9 N9 dd3 k9 => ?_) rfl rfl)
    clear F2 N2 d3 k9
    replace N9 : News s.heap L h9 [(D, listOf (List.toArray ys) kD), (Dk, listOf #[.ref T0, .ref T1, .ref T2, .ref T3, .ref T4, .ref T5] kk), (T5, { cls := .type "tuple", data := .seq #[.int 2 u5, .int 3 v5] }), (T4, { cls := .type "tuple", data := .seq #[.int 1 u4, .int 3 v4] }), (T3, { cls := .type "tuple", data := .seq #[.int 1 u3, .int 2 v3] }), (T2, { cls := .type "tuple", data := .seq #[.int 0 u2, .int 3 v2] }), (T1, { cls := .type "tuple", data := .seq #[.int 0 u1, .int 2 v1] }), (T0, { cls := .type "tuple", data := .seq #[.int 0 u0, .int 1 v0] }), (Ds, listOf (List.toArray [.ref a0, .ref a1, .ref a2, .ref a3]) ks), (a0, b0), (a1, b1), (a2, b2), (a3, b3), (Dl, listOf (List.toArray ys0) kl), (L + 1 + 1 + 1 + 1 + 1 + 1 + 1, o1), (L + 1 + 1 + 1 + 1 + 1 + 1, o2), (L + 1 + 1 + 1 + 1 + 1, o3'), (L + 1 + 1 + 1 + 1, o4), (L + 1 + 1 + 1, o5), (L + 1 + 1, o6), (L + 1, o7)] := N9
    try dsimp only
    try dsimp only [qk]
    obtain ⟨e⟩ := law_8 X T hA0 ret hls hla cb0 eb0 S0 cb1 eb1 S1 cb2 eb2 S2 cb3 eb3 S3 F9 hP2 N9 d1 d2 dd3 d4 d5 d6
    exact @e


end Mine

-- C21
namespace Mine
theorem topOff_C21 : True := by
  w_top off
  trivial
end Mine
namespace Mine
open PySem PySem.W PyProof.Rows PySem.Calls PySem.Spec
local macro_rules | `(tactic| walk_at "eval ListComp") => `(tactic| ((with_reducible refine' comp_eval ?hclos ?hcell ?hkind ?hnames ?hs ?_); (case hclos => with_unfolding_all rfl); (case hcell => decide); (case hkind => with_unfolding_all rfl); (case hnames => decide); (case hs => intro _; with_unfolding_all rfl)))
local macro_rules | `(tactic| walk_at "call ref") => `(tactic| (refine wpAny_call ?_))
local macro_rules | `(tactic| walk_at "exec Assign cons ListComp") => `(tactic| first
  | (refine' comp_assign ?hsw ?hclos ?hcell ?hkind ?hnames ?hs ?hy ?hp ?_; (case hsw => with_unfolding_all rfl); (case hclos => with_unfolding_all rfl); (case hcell => decide); (case hkind => with_unfolding_all rfl); (case hnames => decide); (case hs => intro _; with_unfolding_all rfl); (case hy => with_unfolding_all rfl); (case hp => with_unfolding_all rfl))
  | (refine wpAny_Assign_Name ?_ (by with_unfolding_all rfl)))
local macro_rules | `(tactic| walk_at "subscriptTail") => `(tactic| ((with_reducible show wpAny _ _ (subscriptTail (Expr.List _ _) _ _ _) _ _ _); refine Hold.stop ?_))
local macro_rules | `(tactic| walk_at "subscriptTail") => `(tactic| ((with_reducible show wpAny _ _ (subscriptTail _ _ (Value.ref _) (Value.int _ _)) _ _ _); refine Hold.stop ?_))
local macro_rules | `(tactic| walk_at "storeName") => `(tactic| (refine Hold.stop ?_))
local macro_rules | `(tactic| walk_at "binaryOp Add ref ref") => `(tactic| (refine Hold.stop ?_))

set_option maxHeartbeats 1600000 in
theorem law_6 {w : World} {p : Program} {loose : List Str} {mean : ExcName → Option Value} {mg mb : Str → Option Value} {A : Around} {s : Shared} {Q : Flow → Shared → Prop} {L : Addr} {h : Heap} {tk : Nat} {m : Str → Option Value} {o1 o2 o3 o4 o5 o6 o7 : Obj} {ns : List Int} {Ds Dl a0 a1 a2 a3 : Addr} {b0 b1 b2 b3 : Obj} {ys0 vs0 vs1 vs2 vs3 : List Value} {ks kl n0 n1 n2 n3 : Nat}
    (X : (KK w.params).In s.heap) (T : Top p loose mean mg mb s.heap) (hA : Rm A 6) (ret : ∀ h' tk', Kp s.heap h' → Q (.ret (.bool true)) { s with heap := h', toks := tk' })
    (hls : StrsAre ys0 ([rA ns, rB ns].map tx)) (cb0 : b0.cls = .type "list") (eb0 : b0.data = .seq (List.toArray vs0) n0) (S0 : StrsAre vs0 ((kp ns 0).map fun c => tx [c])) (cb1 : b1.cls = .type "list") (eb1 : b1.data = .seq (List.toArray vs1) n1) (S1 : StrsAre vs1 ((kp ns 1).map fun c => tx [c])) (cb2 : b2.cls = .type "list") (eb2 : b2.data = .seq (List.toArray vs2) n2) (S2 : StrsAre vs2 ((kp ns 2).map fun c => tx [c])) (cb3 : b3.cls = .type "list") (eb3 : b3.data = .seq (List.toArray vs3) n3) (S3 : StrsAre vs3 ((kp ns 3).map fun c => tx [c]))
    (F : Fr s.heap L h m) (hP : Abv L [(Ds, listOf (List.toArray [.ref a0, .ref a1, .ref a2, .ref a3]) ks), (a0, b0), (a1, b1), (a2, b2), (a3, b3), (Dl, listOf (List.toArray ys0) kl)]) (N : News s.heap L h [(Ds, listOf (List.toArray [.ref a0, .ref a1, .ref a2, .ref a3]) ks), (a0, b0), (a1, b1), (a2, b2), (a3, b3), (Dl, listOf (List.toArray ys0) kl), (L + 1 + 1 + 1 + 1 + 1 + 1 + 1, o1), (L + 1 + 1 + 1 + 1 + 1 + 1, o2), (L + 1 + 1 + 1 + 1 + 1, o3), (L + 1 + 1 + 1 + 1, o4), (L + 1 + 1 + 1, o5), (L + 1 + 1, o6), (L + 1, o7)]) (d1 : o1.data = .cell none) (d2 : o2.data = .cell none) (d3 : o3.data = .cell none) (d4 : o4.data = .cell none) (d5 : o5.data = .cell (some (.ref Ds))) (d6 : o6.data = .cell (some (.ref Dl))) :
    LGo w A s Q L h tk 8 := by
  refine ⟨?_⟩
  have hA0 := hA
  obtain ⟨hh, hdp, hun⟩ := hA
  refine fill ?_
  k_fill
  intro _
  (with_unfolding_all show wpAny (model PG w) (A.deeper (envOfC _ (Scope.mk _ _ _ _ _) _ _ _)) (execs (_ :: _) (envOfC _ (Scope.mk _ _ _ _ _) _ _ _)) _ _ _)
  try dsimp only
  try k_fold
  k_steps
  rename Fr _ _ _ _ => F1
  rename News _ _ _ _ => N1
  have nc := fun D (h : @LT.lt Nat _ (L + 1 + 1 + 1 + 1 + 1 + 1 + 1) D) => nca h
  refine' Hold.go (store_cell F1 N1 (c := L + 1 + 1 + 1 + 1) rfl (cellU4 (pre := [_, _, _, _, _, _, _] ++ [(Ds, listOf (List.toArray [.ref a0, .ref a1, .ref a2, .ref a3]) ks), (a0, b0), (a1, b1), (a2, b2), (a3, b3), (Dl, listOf (List.toArray ys0) kl)]) ?hPN) d4 (fun h9 o4' F9 N9 dd4 k9 => ?_) rfl rfl)
  case hPN => exact .cons (nca (by omega)) (.cons (nca (by omega)) (.cons (nca (by omega)) (.cons (nca (by omega)) (.cons (nca (by omega)) (.cons (nca (by omega)) (.cons (nca (by omega)) hP))))))
  clear F1 N1 d4 k9
  try dsimp only
  try dsimp only [qk]
  obtain ⟨e⟩ := law_7 X T hA0 ret hls cb0 eb0 S0 cb1 eb1 S1 cb2 eb2 S2 cb3 eb3 S3 F9 (.cons (nca (by omega)) (.cons (nca (by omega)) (.cons (nca (by omega)) (.cons (nca (by omega)) (.cons (nca (by omega)) (.cons (nca (by omega)) (.cons (nca (by omega)) hP))))))) N9 d1 d2 d3 dd4 d5 d6
  exact @e


end Mine

-- C20
namespace Mine
theorem topOff_C20 : True := by
  w_top off
  trivial
end Mine
namespace Mine
open PySem PySem.W PyProof.Rows PySem.Calls PySem.Spec
local macro_rules | `(tactic| walk_at "none such") => `(tactic| skip)
local macro_rules | `(tactic| walk_at "none such") => `(tactic| skip)
local macro_rules | `(tactic| walk_at "none such") => `(tactic| skip)
local macro_rules | `(tactic| walk_at "none such") => `(tactic| skip)
local macro_rules | `(tactic| walk_at "none such") => `(tactic| skip)
local macro_rules | `(tactic| walk_at "none such") => `(tactic| skip)
local macro_rules | `(tactic| walk_at "none such") => `(tactic| skip)
local macro_rules | `(tactic| walk_at "none such") => `(tactic| skip)
local macro_rules | `(tactic| walk_at "none such") => `(tactic| skip)
local macro_rules | `(tactic| walk_at "none such") => `(tactic| skip)
local macro_rules | `(tactic| walk_at "none such") => `(tactic| skip)
local macro_rules | `(tactic| walk_at "eval ListComp") => `(tactic| ((with_reducible refine' comp_eval ?hclos ?hcell ?hkind ?hnames ?hs ?_); (case hclos => with_unfolding_all rfl); (case hcell => decide); (case hkind => with_unfolding_all rfl); (case hnames => decide); (case hs => intro _; with_unfolding_all rfl)))
local macro_rules | `(tactic| walk_at "call ref") => `(tactic| (refine wpAny_call ?_))
local macro_rules | `(tactic| walk_at "exec Assign cons ListComp") => `(tactic| first
  | (refine' comp_assign ?hsw ?hclos ?hcell ?hkind ?hnames ?hs ?hy ?hp ?_; (case hsw => with_unfolding_all rfl); (case hclos => with_unfolding_all rfl); (case hcell => decide); (case hkind => with_unfolding_all rfl); (case hnames => decide); (case hs => intro _; with_unfolding_all rfl); (case hy => with_unfolding_all rfl); (case hp => with_unfolding_all rfl))
  | (refine wpAny_Assign_Name ?_ (by with_unfolding_all rfl)))
local macro_rules | `(tactic| walk_at "subscriptTail") => `(tactic| ((with_reducible show wpAny _ _ (subscriptTail (Expr.List _ _) _ _ _) _ _ _); refine Hold.stop ?_))
local macro_rules | `(tactic| walk_at "subscriptTail") => `(tactic| ((with_reducible show wpAny _ _ (subscriptTail _ _ (Value.ref _) (Value.int _ _)) _ _ _); refine Hold.stop ?_))
local macro_rules | `(tactic| walk_at "storeName") => `(tactic| (refine Hold.stop ?_))
local macro_rules | `(tactic| walk_at "binaryOp Add ref ref") => `(tactic| (refine Hold.stop ?_))

local macro_rules | `(tactic| walk_at "compareOp NotEq ref ref") => `(tactic| (refine Hold.stop ?_))
local macro_rules | `(tactic| walk_at "exec If") => `(tactic| (refine If_hold ?_))

set_option maxHeartbeats 1600000 in
theorem law_5 {w : World} {p : Program} {loose : List Str} {mean : ExcName → Option Value} {mg mb : Str → Option Value} {A : Around} {s : Shared} {Q : Flow → Shared → Prop} {L : Addr} {h : Heap} {tk : Nat} {m : Str → Option Value} {o1 o2 o3 o4 o5 o6 o7 : Obj} {ns : List Int} {Dk Dl : Addr} {zs ys0 : List Value} {kk kl : Nat}
    (X : (KK w.params).In s.heap) (T : Top p loose mean mg mb s.heap) (hA : Rm A 6) (ret : ∀ h' tk', Kp s.heap h' → Q (.ret (.bool true)) { s with heap := h', toks := tk' })
    (hls : StrsAre ys0 ([rA ns, rB ns].map tx)) (hKL : LL s.heap (cad L) h zs (kpt ns)) (hm : m (Str.ofString "kept") = some (.ref Dk))
    (F : Fr s.heap L h m) (hP : Abv L [(Dk, listOf (List.toArray zs) kk), (Dl, listOf (List.toArray ys0) kl)]) (N : News s.heap L h [(Dk, listOf (List.toArray zs) kk), (Dl, listOf (List.toArray ys0) kl), (L + 1 + 1 + 1 + 1 + 1 + 1 + 1, o1), (L + 1 + 1 + 1 + 1 + 1 + 1, o2), (L + 1 + 1 + 1 + 1 + 1, o3), (L + 1 + 1 + 1 + 1, o4), (L + 1 + 1 + 1, o5), (L + 1 + 1, o6), (L + 1, o7)]) (d1 : o1.data = .cell none) (d2 : o2.data = .cell none) (d3 : o3.data = .cell none) (d4 : o4.data = .cell none) (d5 : o5.data = .cell none) (d6 : o6.data = .cell (some (.ref Dl))) :
    LGo w A s Q L h tk 6 := by
  refine ⟨?_⟩
  have hA0 := hA
  obtain ⟨hh, hdp, hun⟩ := hA
  refine fill ?_
  k_fill
  intro _
  (with_unfolding_all show wpAny (model PG w) (A.deeper (envOfC _ (Scope.mk _ _ _ _ _) _ _ _)) (execs (_ :: _) (envOfC _ (Scope.mk _ _ _ _ _) _ _ _)) _ _ _)
  rw [map1 hm] at F
  try dsimp only
  try k_fold
  k_steps
  rename Fr _ _ _ _ => F1
  rename News _ _ _ _ => N1
  refine' comp_list (fun i m => ∃ a vs, m (Str.ofString "signs") = some (.ref a) ∧ h.IsList a (List.toArray vs) ∧ StrsAre vs ((kp ns i).map fun c => tx [c])) (fun B i ys h => LL s.heap (B ++ cad L) h ys ((kpt ns).take i)) ?hh ?hl ?hn ?bind (fun _ _ => .nil) (fun _ _ _ _ _ k x => x.keep fun b o hb e => k b o (fun q => hb (List.mem_append_left _ q)) e) ?turn ?done
  case hh => exact hh
  case hl => exact News.isList N1 (.head _)
  case hn => (rw [List.size_toArray, hKL.len]; exact Nat.le_of_ble_eq_true rfl)
  case bind =>
    intro i v C hv _
    have hi : i < 4 := by
      have := (Array.getElem?_eq_some_iff.mp hv).1
      rwa [List.size_toArray, hKL.len] at this
    obtain ⟨a, vs, ha, hla, hSa⟩ := hKL.get (i := i) hi
    rw [← kpt_at ns hi] at hSa
    obtain rfl : v = .ref a := by
      have hv' : zs[i]? = some v := by simpa using hv
      rw [ha] at hv'; exact (Option.some.inj hv').symm
    exact (bind_name rfl rfl).imp fun m hm => ⟨a, vs, hm, hla, hSa⟩
  case turn =>
    intro B i ys C h₃ tk₃ m₃ hi hJ hC hB hns hMM hk
    obtain ⟨a, vs, hm, hla, hSa⟩ := hMM
    rw [List.size_toArray, hKL.len] at hi
    replace hi : i < 4 := hi
    have hla' := hla.at fun o e => hk _ o e
    obtain ⟨b, fl, PA⟩ := pat_as (sig_kp ns hi).len (sig_lst (row_A ns) (row_B ns) (sig_kp ns hi))
    have F3 := frC F1 hns hC hk
    have N3 := nwC N1 hC hk
    have hC4 := cad_lt (F1.keeps hk) (pre := [(Dk, listOf (List.toArray zs) kk), (Dl, listOf (List.toArray ys0) kl)]) (N1.grown hk)
    have hb0 := kp_trans F1.keep hk
    clear F1 N1
    unfold VTurnJ
    refine wpAny_tests_nil ?_
    simp only [if_true]
    try dsimp only
    try k_fold
    k_steps
    refine no_implicit_lambda% (c_pattern (A := A.deeper _) hla' hSa (sig_kp ns hi).len (X.keeps (Fr.keep ‹_›)) (T.keeps (Fr.keep ‹_›)) (Rm.le (n := 5) (Rm.deeper hA0) (by decide)) fun t9 h9 tk9 k9 => ?_)
    rename Fr _ _ _ _ => F1
    rename News _ _ _ _ => N1
    replace F1 := F1.keeps k9
    replace N1 := N1.grown k9
    try dsimp only
    try k_fold
    rw [PA.pat]
    k_steps
    refine no_implicit_lambda% (c_translate (A := A.deeper _) PA.ok PA.no42 PA.len (X.keeps (Fr.keep ‹_›)) (T.keeps (Fr.keep ‹_›)) (Rm.le (n := 5) (Rm.deeper hA0) (by decide)) fun t8 h8 tk8 k8 => ?_)
    rename Fr _ _ _ _ => F1
    rename News _ _ _ _ => N1
    replace F1 := F1.keeps k8
    replace N1 := N1.grown k8
    try dsimp only
    try k_fold
    k_steps
    refine no_implicit_lambda% (c_read (A := A.deeper _) rfl PA.lst PA.len (X.keeps (Fr.keep ‹_›)) (T.keeps (Fr.keep ‹_›)) (Rm.le (n := 5) (Rm.deeper hA0) (by decide)) fun D7 vs7 h7 tk7 k7 hD7 hl7 hS7 => ?_)
    rename Fr _ _ _ _ => F1
    rename News _ _ _ _ => N1
    replace F1 := F1.keeps k7
    replace N1 := N1.grown k7
    try dsimp only
    try k_fold
    k_steps
    · rw [PA.back] at hS7
      have k98 := kp_trans k9 k8
      exact LL.next (hJ.keep fun b o _ e => k7 b o (k98 b o e)) hi (kpt_at ns hi) (none_none (kp_trans hb0 k98) hD7) (off_none (exi_kp hB k98) (exi_kp hC4 k98) hD7) hl7 hS7
    · exact keeps_of (kp_trans (kp_trans k9 k8) k7)
  case done =>
    intro B D h' tk' ws hJ hD hl' hk'
    have F2 := F1.keeps hk'
    have hPD := nca (abv_new N1 (.tail _ (.tail _ (.head _))) hD)
    obtain ⟨kD, N2⟩ := nw_add F1 (N1.grown hk') hD hl'
    rw [List.size_toArray, hKL.len] at hJ
    have hSL : LL s.heap (cad L) h' ws (kpt ns) := LL.sub hJ fun b hb => List.mem_append_right _ hb
    replace hKL := hKL.keep fun b o _ e => hk' b o e
    have hP2 : Abv L ((D, listOf (List.toArray ws) kD) :: [(Dk, listOf (List.toArray zs) kk), (Dl, listOf (List.toArray ys0) kl)]) := .cons hPD hP
    clear F1 N1 hk' hl' hD hJ
    try dsimp only
    try k_fold
    k_steps
    refine Hold.go (store_cell F2 N2 (c := L + 1 + 1 + 1) rfl (cellU5 hP2) d5 (fun h9 o5' F9 N9 dd5 k9 => ?_) rfl rfl)
    have hc9 : ∀ b o, b ∉ cad L → h'.get? b = some o → h9.get? b = some o := fun b o hb e => k9 b o (fun q => hb (by rw [q]; simp [cad])) e
    replace hKL := hKL.keep hc9
    replace hSL := hSL.keep hc9
    clear F2 N2 d5 hc9 k9
    replace N9 : News s.heap L h9 [(D, listOf (List.toArray ws) kD), (Dk, listOf (List.toArray zs) kk), (Dl, listOf (List.toArray ys0) kl), (L + 1 + 1 + 1 + 1 + 1 + 1 + 1, o1), (L + 1 + 1 + 1 + 1 + 1 + 1, o2), (L + 1 + 1 + 1 + 1 + 1, o3), (L + 1 + 1 + 1 + 1, o4), (L + 1 + 1 + 1, o5'), (L + 1 + 1, o6), (L + 1, o7)] := N9
    try dsimp only
    try k_fold
    k_steps
    refine Hold.go (ne_sgs (News.isList N9 (.head _)) hSL (News.isList N9 (.tail _ (.head _))) hKL (kpt_lt ns) (by show A.units + 3 + 64 < cLine; simp only [cLine]; omega) ?_)
    try dsimp only
    try k_fold
    k_steps
    rw [if_neg (by decide)]
    refine Hold.go ?_
    refine wpAny_execs_nil ?_
    dsimp only
    cases hSL with
    | @cons a0 vs0 _ _ _ z0 f0 l0 S0 hSL =>
    cases hSL with
    | @cons a1 vs1 _ _ _ z1 f1 l1 S1 hSL =>
    cases hSL with
    | @cons a2 vs2 _ _ _ z2 f2 l2 S2 hSL =>
    cases hSL with
    | @cons a3 vs3 _ _ _ z3 f3 l3 S3 hSL =>
    cases hSL
    obtain ⟨b0, g0, cb0, n0, eb0⟩ := l0
    obtain ⟨b1, g1, cb1, n1, eb1⟩ := l1
    obtain ⟨b2, g2, cb2, n2, eb2⟩ := l2
    obtain ⟨b3, g3, cb3, n3, eb3⟩ := l3
    have hP3 : Abv L [(D, listOf (List.toArray [.ref a0, .ref a1, .ref a2, .ref a3]) kD), (a0, b0), (a1, b1), (a2, b2), (a3, b3), (Dl, listOf (List.toArray ys0) kl)] := .cons (hP2 _ (.head _)) (.cons f0 (.cons f1 (.cons f2 (.cons f3 (.cons (hP2 _ (.tail _ (.tail _ (.head _)))) .nil)))))
    have nL : ∀ a, a ∉ cad L → a ≠ L := fun a h q => h (by rw [q]; simp [cad])
    have N3 : News s.heap L _ [(D, listOf (List.toArray [.ref a0, .ref a1, .ref a2, .ref a3]) kD), (a0, b0), (a1, b1), (a2, b2), (a3, b3), (Dl, listOf (List.toArray ys0) kl), (L + 1 + 1 + 1 + 1 + 1 + 1 + 1, o1), (L + 1 + 1 + 1 + 1 + 1 + 1, o2), (L + 1 + 1 + 1 + 1 + 1, o3), (L + 1 + 1 + 1 + 1, o4), (L + 1 + 1 + 1, o5'), (L + 1 + 1, o6), (L + 1, o7)] := fun p hp => by
      rcases List.mem_cons.mp hp with rfl | hp
      · exact N9 _ (.head _)
      rcases List.mem_cons.mp hp with rfl | hp
      · exact ⟨g0, nL _ f0, z0⟩
      rcases List.mem_cons.mp hp with rfl | hp
      · exact ⟨g1, nL _ f1, z1⟩
      rcases List.mem_cons.mp hp with rfl | hp
      · exact ⟨g2, nL _ f2, z2⟩
      rcases List.mem_cons.mp hp with rfl | hp
      · exact ⟨g3, nL _ f3, z3⟩
      exact N9 p (.tail _ (.tail _ hp))
    obtain ⟨e⟩ := law_6 X T hA0 ret hls cb0 eb0 S0 cb1 eb1 S1 cb2 eb2 S2 cb3 eb3 S3 F9 hP3 N3 d1 d2 d3 d4 dd5 d6
    exact @e


end Mine

-- C19
namespace Mine
theorem topOff_C19 : True := by
  w_top off
  trivial
end Mine
namespace Mine
open PySem PySem.W PyProof.Rows PySem.Calls PySem.Spec
local macro_rules | `(tactic| walk_at "eval ListComp") => `(tactic| ((with_reducible refine' comp_eval ?hclos ?hcell ?hkind ?hnames ?hs ?_); (case hclos => with_unfolding_all rfl); (case hcell => decide); (case hkind => with_unfolding_all rfl); (case hnames => decide); (case hs => intro _; with_unfolding_all rfl)))
local macro_rules | `(tactic| walk_at "call ref") => `(tactic| (refine wpAny_call ?_))
local macro_rules | `(tactic| walk_at "exec Assign cons ListComp") => `(tactic| first
  | (refine' comp_assign ?hsw ?hclos ?hcell ?hkind ?hnames ?hs ?hy ?hp ?_; (case hsw => with_unfolding_all rfl); (case hclos => with_unfolding_all rfl); (case hcell => decide); (case hkind => with_unfolding_all rfl); (case hnames => decide); (case hs => intro _; with_unfolding_all rfl); (case hy => with_unfolding_all rfl); (case hp => with_unfolding_all rfl))
  | (refine wpAny_Assign_Name ?_ (by with_unfolding_all rfl)))
local macro_rules | `(tactic| walk_at "subscriptTail") => `(tactic| ((with_reducible show wpAny _ _ (subscriptTail (Expr.List _ _) _ _ _) _ _ _); refine Hold.stop ?_))
local macro_rules | `(tactic| walk_at "subscriptTail Name BinOp ref int") => `(tactic| ((with_reducible show wpAny _ _ (subscriptTail _ _ (Value.ref _) (Value.int _ _)) _ _ _); refine Hold.stop ?_))
local macro_rules | `(tactic| walk_at "subscriptTail Name BinOp ref int") => `(tactic| ((rename News _ _ _ _ => lN); k_dflt (refine item_nm (News.isList lN (by first | exact .head _ | exact .tail _ (.head _) | exact .tail _ (.tail _ (.head _)) | exact .tail _ (.tail _ (.tail _ (.head _))) | exact .tail _ (.tail _ (.tail _ (.tail _ (.head _)))) | exact .tail _ (.tail _ (.tail _ (.tail _ (.tail _ (.head _))))) | exact .tail _ (.tail _ (.tail _ (.tail _ (.tail _ (.tail _ (.head _)))))) | exact .tail _ (.tail _ (.tail _ (.tail _ (.tail _ (.tail _ (.tail _ (.head _))))))) | exact .tail _ (.tail _ (.tail _ (.tail _ (.tail _ (.tail _ (.tail _ (.tail _ (.head _)))))))) | exact .tail _ (.tail _ (.tail _ (.tail _ (.tail _ (.tail _ (.tail _ (.tail _ (.tail _ (.head _))))))))) | exact .tail _ (.tail _ (.tail _ (.tail _ (.tail _ (.tail _ (.tail _ (.tail _ (.tail _ (.tail _ (.head _)))))))))) | exact .tail _ (.tail _ (.tail _ (.tail _ (.tail _ (.tail _ (.tail _ (.tail _ (.tail _ (.tail _ (.tail _ (.head _))))))))))) | exact .tail _ (.tail _ (.tail _ (.tail _ (.tail _ (.tail _ (.tail _ (.tail _ (.tail _ (.tail _ (.tail _ (.tail _ (.head _)))))))))))) | exact .tail _ (.tail _ (.tail _ (.tail _ (.tail _ (.tail _ (.tail _ (.tail _ (.tail _ (.tail _ (.tail _ (.tail _ (.tail _ (.head _))))))))))))))) (by assumption) (by omega) (by omega) ?_); intro _))
local macro_rules | `(tactic| walk_at "storeName") => `(tactic| (refine Hold.stop ?_))
local macro_rules | `(tactic| walk_at "binaryOp Add ref ref") => `(tactic| (refine Hold.stop ?_))

local macro_rules | `(tactic| walk_at "binaryOp FloorDiv int int") => `(tactic| (refine PyProof.Rows.floordiv_int (by decide) ?_))

set_option maxHeartbeats 1600000 in
theorem law_4 {w : World} {p : Program} {loose : List Str} {mean : ExcName → Option Value} {mg mb : Str → Option Value} {A : Around} {s : Shared} {Q : Flow → Shared → Prop} {L : Addr} {h : Heap} {tk : Nat} {m : Str → Option Value} {o1 o2 o3 o4 o5 o6 o7 : Obj} {ns : List Int} {Dn Dl : Addr} {us ys0 : List Value} {kn kl : Nat}
    (X : (KK w.params).In s.heap) (T : Top p loose mean mg mb s.heap) (hA : Rm A 6) (ret : ∀ h' tk', Kp s.heap h' → Q (.ret (.bool true)) { s with heap := h', toks := tk' })
    (hus : IntsAre us (nms ns)) (hls : StrsAre ys0 ([rA ns, rB ns].map tx))
    (F : Fr s.heap L h m) (hP : Abv L [(Dl, listOf (List.toArray ys0) kl), (Dn, listOf (List.toArray us) kn)]) (N : News s.heap L h [(Dl, listOf (List.toArray ys0) kl), (Dn, listOf (List.toArray us) kn), (L + 1 + 1 + 1 + 1 + 1 + 1 + 1, o1), (L + 1 + 1 + 1 + 1 + 1 + 1, o2), (L + 1 + 1 + 1 + 1 + 1, o3), (L + 1 + 1 + 1 + 1, o4), (L + 1 + 1 + 1, o5), (L + 1 + 1, o6), (L + 1, o7)]) (d1 : o1.data = .cell none) (d2 : o2.data = .cell none) (d3 : o3.data = .cell none) (d4 : o4.data = .cell none) (d5 : o5.data = .cell none) (d6 : o6.data = .cell (some (.ref Dl))) (d7 : o7.data = .cell (some (.ref Dn))) :
    LGo w A s Q L h tk 5 := by
  refine ⟨?_⟩
  have hA0 := hA
  obtain ⟨hh, hdp, hun⟩ := hA
  refine fill ?_
  k_fill
  intro _
  (with_unfolding_all show wpAny (model PG w) (A.deeper (envOfC _ (Scope.mk _ _ _ _ _) _ _ _)) (execs (_ :: _) (envOfC _ (Scope.mk _ _ _ _ _) _ _ _)) _ _ _)
  try dsimp only
  try k_fold
  k_steps
  rename IsRange _ _ _ _ _ _ _ _ => hr
  rename Fr _ _ _ _ => F1
  rename News _ _ _ _ => N1
  refine' comp_rngS (fun i m => ∃ t, m (Str.ofString "i") = some (.int (i : Nat) t)) (fun B i ys h => LL s.heap (B ++ cad L) h ys ((kpt ns).take i)) ?hh ?hns ?hl ?hn ?bind (fun _ _ => .nil) (fun _ _ _ _ _ k x => x.keep fun b o hb e => k b o (fun q => hb (List.mem_append_left _ q)) e) ?turn ?done
  case hh => exact hh
  case hns => exact F1.ns
  case hl => exact hr
  case hn => exact Nat.le_of_ble_eq_true rfl
  case bind =>
    intro i t C hi _
    exact (bind_name rfl rfl).imp fun m hm => ⟨t, hm⟩
  case turn =>
    intro B i ys C h₃ tk₃ m₃ hi hJ hC hB hns hMM hk
    obtain ⟨t, hm⟩ := hMM
    replace hi : i < 4 := hi
    have hi0 : 0 ≤ (i : Int) ∧ (i : Int) < 4 := ⟨Int.natCast_nonneg _, by omega⟩
    have F3 := frC F1 hns hC hk
    have N3 := nwC N1 hC hk
    have hC4 := cad_lt (F1.keeps hk) (pre := [(Dl, listOf (List.toArray ys0) kl), (Dn, listOf (List.toArray us) kn)]) (N1.grown hk)
    have hb0 := kp_trans F1.keep hk
    clear F1 N1
    unfold VTurnJ
    refine wpAny_tests_nil ?_
    simp only [if_true]
    try dsimp only
    try k_fold
    k_steps
    rename News _ _ _ _ => N5
    have hix := kp_ix ns hi
    obtain ⟨tl, hlt⟩ := strs_at hls (i := ((nn ns (7 + 2 * (i : Int))).fdiv 48).toNat) (by rcases hix with e | e <;> rw [e] <;> simp)
    refine Hold.go (item_list (News.isList N5 (by first | exact .head _ | exact .tail _ (.head _) | exact .tail _ (.tail _ (.head _)) | exact .tail _ (.tail _ (.tail _ (.head _))) | exact .tail _ (.tail _ (.tail _ (.tail _ (.head _)))) | exact .tail _ (.tail _ (.tail _ (.tail _ (.tail _ (.head _))))) | exact .tail _ (.tail _ (.tail _ (.tail _ (.tail _ (.tail _ (.head _)))))) | exact .tail _ (.tail _ (.tail _ (.tail _ (.tail _ (.tail _ (.tail _ (.head _))))))) | exact .tail _ (.tail _ (.tail _ (.tail _ (.tail _ (.tail _ (.tail _ (.tail _ (.head _)))))))) | exact .tail _ (.tail _ (.tail _ (.tail _ (.tail _ (.tail _ (.tail _ (.tail _ (.tail _ (.head _))))))))) | exact .tail _ (.tail _ (.tail _ (.tail _ (.tail _ (.tail _ (.tail _ (.tail _ (.tail _ (.tail _ (.head _)))))))))) | exact .tail _ (.tail _ (.tail _ (.tail _ (.tail _ (.tail _ (.tail _ (.tail _ (.tail _ (.tail _ (.tail _ (.head _))))))))))) | exact .tail _ (.tail _ (.tail _ (.tail _ (.tail _ (.tail _ (.tail _ (.tail _ (.tail _ (.tail _ (.tail _ (.tail _ (.head _)))))))))))) | exact .tail _ (.tail _ (.tail _ (.tail _ (.tail _ (.tail _ (.tail _ (.tail _ (.tail _ (.tail _ (.tail _ (.tail _ (.tail _ (.head _))))))))))))))) (by rcases hix with e | e <;> rw [e] <;> decide) (by rcases hix with e | e <;> rw [e] <;> decide) hlt ?_)
    have hlen : (tx ([rA ns, rB ns].getD ((nn ns (7 + 2 * (i : Int))).fdiv 48).toNat [])).length = 10 := by
      rw [tx_len]
      rcases hix with e | e <;> rw [e]
      · exact row_len (row_A ns)
      · exact row_len (row_B ns)
    try dsimp only
    try k_fold
    k_steps
    refine no_implicit_lambda% (c_signs (A := A.deeper _) hlen (nn_bd ns (by omega) (by omega)) (nn_bd ns (by omega) (by omega)) (X.keeps (Fr.keep ‹_›)) (T.keeps (Fr.keep ‹_›)) (Rm.le (n := 5) (Rm.deeper hA0) (by decide)) fun D9 vs9 h9 tk9 k9 hD9 hl9 hS9 => ?_)
    rename Fr _ _ _ _ => F1
    rename News _ _ _ _ => N1
    replace F1 := F1.keeps k9
    replace N1 := N1.grown k9
    try dsimp only
    try k_fold
    k_steps
    · exact LL.next (hJ.keep fun b o _ e => k9 b o e) hi (kpt_at ns hi) (none_size hb0 hD9) (off_size hB hC4 hD9) hl9 hS9
    · exact keeps_of k9
  case done =>
    intro B D h' tk' zs hJ hD hl' hn' hk'
    have F2 := fr_store F1 hn' hk'
    have hPD := nca (abv_new N1 (.tail _ (.tail _ (.head _))) hD)
    obtain ⟨kD, N2⟩ := nw_add F1 (nw_store N1 hk') hD hl'
    have hKL : LL s.heap (cad L) h' zs (kpt ns) := LL.sub hJ fun b hb => List.mem_append_right _ hb
    clear F1 N1 hk' hl' hD hn' hJ hr
    dsimp only
    have hP3 : Abv L [(D, listOf (List.toArray zs) kD), (Dl, listOf (List.toArray ys0) kl)] := .cons hPD fun p hp => hP p (by
      rcases List.mem_cons.mp hp with rfl | hp
      · exact .head _
      · exact nomatch hp)
    have N3 : News s.heap L h' [(D, listOf (List.toArray zs) kD), (Dl, listOf (List.toArray ys0) kl), (L + 1 + 1 + 1 + 1 + 1 + 1 + 1, o1), (L + 1 + 1 + 1 + 1 + 1 + 1, o2), (L + 1 + 1 + 1 + 1 + 1, o3), (L + 1 + 1 + 1 + 1, o4), (L + 1 + 1 + 1, o5), (L + 1 + 1, o6), (L + 1, o7)] := fun p hp => N2 p (by
      rcases List.mem_cons.mp hp with rfl | hp
      · exact .head _
      · rcases List.mem_cons.mp hp with rfl | hp
        · exact .tail _ (.head _)
        · exact .tail _ (.tail _ (.tail _ hp)))
    have hkm : (fun z => if z = Str.ofString "kept" then some (Value.ref D) else m z) (Str.ofString "kept") = some (.ref D) := by simp
    obtain ⟨e⟩ := law_5 (m := fun z => if z = Str.ofString "kept" then some (Value.ref D) else m z) X T hA0 ret hls hKL hkm F2 hP3 N3 d1 d2 d3 d4 d5 d6
    exact @e


end Mine

-- C18
namespace Mine
theorem topOff_C18 : True := by
  w_top off
  trivial
end Mine
namespace Mine
open PySem PySem.W PyProof.Rows PySem.Calls PySem.Spec
local macro_rules | `(tactic| walk_at "none such") => `(tactic| skip)
local macro_rules | `(tactic| walk_at "none such") => `(tactic| skip)
local macro_rules | `(tactic| walk_at "none such") => `(tactic| skip)
local macro_rules | `(tactic| walk_at "none such") => `(tactic| skip)
local macro_rules | `(tactic| walk_at "none such") => `(tactic| skip)
local macro_rules | `(tactic| walk_at "none such") => `(tactic| skip)
local macro_rules | `(tactic| walk_at "none such") => `(tactic| skip)
local macro_rules | `(tactic| walk_at "none such") => `(tactic| skip)
local macro_rules | `(tactic| walk_at "none such") => `(tactic| skip)
local macro_rules | `(tactic| walk_at "none such") => `(tactic| skip)
local macro_rules | `(tactic| walk_at "none such") => `(tactic| skip)
local macro_rules | `(tactic| walk_at "eval ListComp") => `(tactic| ((with_reducible refine' comp_eval ?hclos ?hcell ?hkind ?hnames ?hs ?_); (case hclos => with_unfolding_all rfl); (case hcell => decide); (case hkind => with_unfolding_all rfl); (case hnames => decide); (case hs => intro _; with_unfolding_all rfl)))
local macro_rules | `(tactic| walk_at "call ref") => `(tactic| (refine wpAny_call ?_))
local macro_rules | `(tactic| walk_at "exec Assign cons ListComp") => `(tactic| first
  | (refine' comp_assign ?hsw ?hclos ?hcell ?hkind ?hnames ?hs ?hy ?hp ?_; (case hsw => with_unfolding_all rfl); (case hclos => with_unfolding_all rfl); (case hcell => decide); (case hkind => with_unfolding_all rfl); (case hnames => decide); (case hs => intro _; with_unfolding_all rfl); (case hy => with_unfolding_all rfl); (case hp => with_unfolding_all rfl))
  | (refine wpAny_Assign_Name ?_ (by with_unfolding_all rfl)))
local macro_rules | `(tactic| walk_at "subscriptTail") => `(tactic| ((with_reducible show wpAny _ _ (subscriptTail (Expr.List _ _) _ _ _) _ _ _); refine Hold.stop ?_))
local macro_rules | `(tactic| walk_at "subscriptTail") => `(tactic| ((with_reducible show wpAny _ _ (subscriptTail _ _ (Value.ref _) (Value.int _ _)) _ _ _); refine Hold.stop ?_))
local macro_rules | `(tactic| walk_at "subscriptTail") => `(tactic| ((rename News _ _ _ _ => lN); k_dflt (refine item_nm (News.isList lN (by first | exact .head _ | exact .tail _ (.head _) | exact .tail _ (.tail _ (.head _)) | exact .tail _ (.tail _ (.tail _ (.head _))) | exact .tail _ (.tail _ (.tail _ (.tail _ (.head _)))) | exact .tail _ (.tail _ (.tail _ (.tail _ (.tail _ (.head _))))) | exact .tail _ (.tail _ (.tail _ (.tail _ (.tail _ (.tail _ (.head _)))))) | exact .tail _ (.tail _ (.tail _ (.tail _ (.tail _ (.tail _ (.tail _ (.head _))))))) | exact .tail _ (.tail _ (.tail _ (.tail _ (.tail _ (.tail _ (.tail _ (.tail _ (.head _)))))))) | exact .tail _ (.tail _ (.tail _ (.tail _ (.tail _ (.tail _ (.tail _ (.tail _ (.tail _ (.head _))))))))) | exact .tail _ (.tail _ (.tail _ (.tail _ (.tail _ (.tail _ (.tail _ (.tail _ (.tail _ (.tail _ (.head _)))))))))) | exact .tail _ (.tail _ (.tail _ (.tail _ (.tail _ (.tail _ (.tail _ (.tail _ (.tail _ (.tail _ (.tail _ (.head _))))))))))) | exact .tail _ (.tail _ (.tail _ (.tail _ (.tail _ (.tail _ (.tail _ (.tail _ (.tail _ (.tail _ (.tail _ (.tail _ (.head _)))))))))))) | exact .tail _ (.tail _ (.tail _ (.tail _ (.tail _ (.tail _ (.tail _ (.tail _ (.tail _ (.tail _ (.tail _ (.tail _ (.tail _ (.head _))))))))))))))) (by assumption) (by decide) (by decide) ?_); intro _))
local macro_rules | `(tactic| walk_at "storeName") => `(tactic| (refine Hold.stop ?_))
local macro_rules | `(tactic| walk_at "binaryOp Add ref ref") => `(tactic| (refine Hold.stop ?_))

local macro_rules | `(tactic| walk_at "compareOp NotEq ref ref") => `(tactic| (refine Hold.stop ?_))

local macro_rules | `(tactic| walk_at "exec If") => `(tactic| (refine If_hold ?_))

set_option maxHeartbeats 1600000 in
theorem law_3 {w : World} {p : Program} {loose : List Str} {mean : ExcName → Option Value} {mg mb : Str → Option Value} {A : Around} {s : Shared} {Q : Flow → Shared → Prop} {L : Addr} {h : Heap} {tk : Nat} {m : Str → Option Value} {o1 o2 o3 o4 o5 o6 o7 : Obj} {ns : List Int} {Dn Dg : Addr} {us gs : List Value} {kn kg : Nat}
    (X : (KK w.params).In s.heap) (T : Top p loose mean mg mb s.heap) (hA : Rm A 6) (ret : ∀ h' tk', Kp s.heap h' → Q (.ret (.bool true)) { s with heap := h', toks := tk' })
    (hus : IntsAre us (nms ns)) (hgs : IntsAre gs [gA ns, gB ns]) (hm : m (Str.ofString "given") = some (.ref Dg))
    (F : Fr s.heap L h m) (hP : Abv L [(Dg, listOf (List.toArray gs) kg), (Dn, listOf (List.toArray us) kn)]) (N : News s.heap L h [(Dg, listOf (List.toArray gs) kg), (Dn, listOf (List.toArray us) kn), (L + 1 + 1 + 1 + 1 + 1 + 1 + 1, o1), (L + 1 + 1 + 1 + 1 + 1 + 1, o2), (L + 1 + 1 + 1 + 1 + 1, o3), (L + 1 + 1 + 1 + 1, o4), (L + 1 + 1 + 1, o5), (L + 1 + 1, o6), (L + 1, o7)]) (d1 : o1.data = .cell none) (d2 : o2.data = .cell none) (d3 : o3.data = .cell none) (d4 : o4.data = .cell none) (d5 : o5.data = .cell none) (d6 : o6.data = .cell none) (d7 : o7.data = .cell (some (.ref Dn))) :
    LGo w A s Q L h tk 3 := by
  refine ⟨?_⟩
  have hA0 := hA
  obtain ⟨hh, hdp, hun⟩ := hA
  refine fill ?_
  k_fill
  intro _
  (with_unfolding_all show wpAny (model PG w) (A.deeper (envOfC _ (Scope.mk _ _ _ _ _) _ _ _)) (execs (_ :: _) (envOfC _ (Scope.mk _ _ _ _ _) _ _ _)) _ _ _)
  rw [map1 hm] at F
  try dsimp only
  try k_fold
  k_steps
  rename Fr _ _ _ _ => F1
  rename News _ _ _ _ => N1
  refine' comp_list (fun i m => ∃ t, m (Str.ofString "number") = some (.int ([gA ns, gB ns].getD i 0) t)) (fun B i ys h => StrsAre ys (([rA ns, rB ns].take i).map tx)) ?hh ?hl ?hn ?bind (fun _ _ => .nil) (fun _ _ _ _ _ _ h => h) ?turn ?done
  case hh => exact hh
  case hl => exact News.isList N1 (.head _)
  case hn => (rw [List.size_toArray, ints_len hgs]; exact Nat.le_of_ble_eq_true rfl)
  case bind =>
    intro i v C hv _
    obtain ⟨t, rfl⟩ := ints_at hgs (by simpa using hv)
    exact (bind_name rfl rfl).imp fun m hm => ⟨t, hm⟩
  case turn =>
    intro B i ys C h₃ tk₃ m₃ hi hJ hC hB hns hMM hk
    obtain ⟨t, hm⟩ := hMM
    rw [List.size_toArray, ints_len hgs] at hi
    have F3 := frC F1 hns hC hk
    have N3 := nwC N1 hC hk
    clear F1 N1
    unfold VTurnJ
    refine wpAny_tests_nil ?_
    simp only [if_true]
    try dsimp only
    try k_fold
    k_steps
    refine no_implicit_lambda% (c_filemode (A := A.deeper _)  (X.keeps (Fr.keep ‹_›)) (T.keeps (Fr.keep ‹_›)) (Rm.le (n := 5) (Rm.deeper hA0) (by decide)) fun t9 h9 tk9 k9 => ?_)
    rename Fr _ _ _ _ => F1
    rename News _ _ _ _ => N1
    replace F1 := F1.keeps k9
    replace N1 := N1.grown k9
    try dsimp only
    try k_fold
    k_steps
    · exact strs_next hJ hi (by match i, hi with | 0, _ => rfl | 1, _ => rfl)
    · exact keeps_of k9
  case done =>
    intro B D h' tk' ys hJ hD hl' hk'
    have F2 := F1.keeps hk'
    obtain ⟨kD, N2⟩ := nw_add F1 (N1.grown hk') hD hl'
    have hP2 : Abv L [(D, listOf (List.toArray ys) kD), (Dg, listOf (List.toArray gs) kg), (Dn, listOf (List.toArray us) kn)] := .cons (nca (abv_new N1 (.tail _ (.tail _ (.head _))) hD)) hP
    rw [List.size_toArray, ints_len hgs] at hJ
    have hls : StrsAre ys ([rA ns, rB ns].map tx) := hJ
    clear F1 N1 hk' hl' hD hP hJ
    try dsimp only
    try k_fold
    k_steps
    refine Hold.go (storeX_C F2 N2 (c := L + 1 + 1) rfl (cellU6 hP2) d6 (fun h9 o6' F9 N9 dd6 => ?_) rfl rfl)
    clear F2 N2 d6
    replace N9 : News s.heap L h9 [(D, listOf (List.toArray ys) kD), (Dg, listOf (List.toArray gs) kg), (Dn, listOf (List.toArray us) kn), (L + 1 + 1 + 1 + 1 + 1 + 1 + 1, o1), (L + 1 + 1 + 1 + 1 + 1 + 1, o2), (L + 1 + 1 + 1 + 1 + 1, o3), (L + 1 + 1 + 1 + 1, o4), (L + 1 + 1 + 1, o5), (L + 1 + 1, o6'), (L + 1, o7)] := N9
    try dsimp only
    try k_fold
    k_steps
    rename Fr _ _ _ _ => F1
    rename News _ _ _ _ => N1
    refine' comp_list (fun i m => ∃ t, m (Str.ofString "row") = some (.str (tx ([rA ns, rB ns].getD i [])) t)) (fun B i ys h => IntsAre ys ([gA ns, gB ns].take i)) ?hh ?hl ?hn ?bind (fun _ _ => .nil) (fun _ _ _ _ _ _ h => h) ?turn ?done
    case hh => exact hh
    case hl => exact News.isList N1 (.head _)
    case hn => (rw [List.size_toArray, StrsAre.len_eq hls]; exact Nat.le_of_ble_eq_true rfl)
    case bind =>
      intro i v C hv _
      have hi2 : i < 2 := by
        have := (Array.getElem?_eq_some_iff.mp hv).1
        rwa [List.size_toArray, StrsAre.len_eq hls] at this
      obtain ⟨t, ht⟩ := strs_at hls (i := i) hi2
      obtain rfl : v = .str (tx ([rA ns, rB ns].getD i [])) t := by
        have hv' : ys[i]? = some v := by simpa using hv
        rw [ht] at hv'; exact (Option.some.inj hv').symm
      exact (bind_name rfl rfl).imp fun m hm => ⟨t, hm⟩
    case turn =>
      intro B i ys C h₃ tk₃ m₃ hi hJ hC hB hns hMM hk
      obtain ⟨t, hm⟩ := hMM
      rw [List.size_toArray, StrsAre.len_eq hls] at hi
      replace hi : i < 2 := hi
      have F3 := frC F1 hns hC hk
      have N3 := nwC N1 hC hk
      clear F1 N1
      unfold VTurnJ
      refine wpAny_tests_nil ?_
      simp only [if_true]
      try dsimp only
      try k_fold
      k_steps
      refine no_implicit_lambda% (c_back (A := A.deeper _) (by match i, hi with | 0, _ => exact row_len (row_A ns) | 1, _ => exact row_len (row_B ns)) (X.keeps (Fr.keep ‹_›)) (T.keeps (Fr.keep ‹_›)) (Rm.le (n := 5) (Rm.deeper hA0) (by decide)) fun t9 h9 tk9 k9 => ?_)
      rename Fr _ _ _ _ => F1
      rename News _ _ _ _ => N1
      replace F1 := F1.keeps k9
      replace N1 := N1.grown k9
      try dsimp only
      try k_fold
      k_steps
      · exact ints_next hJ hi (by match i, hi with | 0, _ => exact bck_A ns | 1, _ => exact bck_B ns)
      · exact keeps_of k9
    case done =>
      intro B D3 h' tk' zs hJ hD hl' hk'
      have F2 := F1.keeps hk'
      have N2 := N1.grown hk'
      rw [List.size_toArray, StrsAre.len_eq hls] at hJ
      have hzs : IntsAre zs [gA ns, gB ns] := hJ
      clear F1 N1 hk' hD hJ
      try dsimp only
      try k_fold
      k_steps
      refine Hold.go (ke_ne_ints hl'.isList (News.isList N2 (.tail _ (.head _))) hzs hgs (by show A.units + 3 + 64 < cLine; simp only [cLine]; omega) ?_)
      try dsimp only
      try k_fold
      k_steps
      rw [if_neg (by simp)]
      refine Hold.go ?_
      refine wpAny_execs_nil ?_
      dsimp only
      have hP3 : Abv L [(D, listOf (List.toArray ys) kD), (Dn, listOf (List.toArray us) kn)] := fun p hp => hP2 p (by
        rcases List.mem_cons.mp hp with rfl | hp
        · exact .head _
        · exact .tail _ (.tail _ hp))
      have N3 : News s.heap L h' [(D, listOf (List.toArray ys) kD), (Dn, listOf (List.toArray us) kn), (L + 1 + 1 + 1 + 1 + 1 + 1 + 1, o1), (L + 1 + 1 + 1 + 1 + 1 + 1, o2), (L + 1 + 1 + 1 + 1 + 1, o3), (L + 1 + 1 + 1 + 1, o4), (L + 1 + 1 + 1, o5), (L + 1 + 1, o6'), (L + 1, o7)] := fun p hp => N2 p (by
        rcases List.mem_cons.mp hp with rfl | hp
        · exact .head _
        · exact .tail _ (.tail _ hp))
      obtain ⟨e⟩ := law_4 X T hA0 ret hus hls F2 hP3 N3 d1 d2 d3 d4 d5 dd6 d7
      exact @e


end Mine

-- C17
namespace Mine
theorem topOff_C17 : True := by
  w_top off
  trivial
end Mine
namespace Mine
open PySem PySem.W PyProof.Rows PySem.Calls PySem.Spec
local macro_rules | `(tactic| walk_at "eval ListComp") => `(tactic| ((with_reducible refine' comp_eval ?hclos ?hcell ?hkind ?hnames ?hs ?_); (case hclos => with_unfolding_all rfl); (case hcell => decide); (case hkind => with_unfolding_all rfl); (case hnames => decide); (case hs => intro _; with_unfolding_all rfl)))
local macro_rules | `(tactic| walk_at "call ref") => `(tactic| (refine wpAny_call ?_))
local macro_rules | `(tactic| walk_at "exec Assign cons ListComp") => `(tactic| first
  | (refine' comp_assign ?hsw ?hclos ?hcell ?hkind ?hnames ?hs ?hy ?hp ?_; (case hsw => with_unfolding_all rfl); (case hclos => with_unfolding_all rfl); (case hcell => decide); (case hkind => with_unfolding_all rfl); (case hnames => decide); (case hs => intro _; with_unfolding_all rfl); (case hy => with_unfolding_all rfl); (case hp => with_unfolding_all rfl))
  | (refine wpAny_Assign_Name ?_ (by with_unfolding_all rfl)))
local macro_rules | `(tactic| walk_at "subscriptTail") => `(tactic| ((with_reducible show wpAny _ _ (subscriptTail (Expr.List _ _) _ _ _) _ _ _); refine Hold.stop ?_))
local macro_rules | `(tactic| walk_at "subscriptTail Name Constant ref int") => `(tactic| ((with_reducible show wpAny _ _ (subscriptTail _ _ (Value.ref _) (Value.int _ _)) _ _ _); refine Hold.stop ?_))
local macro_rules | `(tactic| walk_at "subscriptTail Name Constant ref int") => `(tactic| ((rename News _ _ _ _ => lN); k_dflt (refine item_nm (News.isList lN (by first | exact .head _ | exact .tail _ (.head _) | exact .tail _ (.tail _ (.head _)) | exact .tail _ (.tail _ (.tail _ (.head _))) | exact .tail _ (.tail _ (.tail _ (.tail _ (.head _)))) | exact .tail _ (.tail _ (.tail _ (.tail _ (.tail _ (.head _))))) | exact .tail _ (.tail _ (.tail _ (.tail _ (.tail _ (.tail _ (.head _)))))) | exact .tail _ (.tail _ (.tail _ (.tail _ (.tail _ (.tail _ (.tail _ (.head _))))))) | exact .tail _ (.tail _ (.tail _ (.tail _ (.tail _ (.tail _ (.tail _ (.tail _ (.head _)))))))) | exact .tail _ (.tail _ (.tail _ (.tail _ (.tail _ (.tail _ (.tail _ (.tail _ (.tail _ (.head _))))))))) | exact .tail _ (.tail _ (.tail _ (.tail _ (.tail _ (.tail _ (.tail _ (.tail _ (.tail _ (.tail _ (.head _)))))))))) | exact .tail _ (.tail _ (.tail _ (.tail _ (.tail _ (.tail _ (.tail _ (.tail _ (.tail _ (.tail _ (.tail _ (.head _))))))))))) | exact .tail _ (.tail _ (.tail _ (.tail _ (.tail _ (.tail _ (.tail _ (.tail _ (.tail _ (.tail _ (.tail _ (.tail _ (.head _)))))))))))) | exact .tail _ (.tail _ (.tail _ (.tail _ (.tail _ (.tail _ (.tail _ (.tail _ (.tail _ (.tail _ (.tail _ (.tail _ (.tail _ (.head _))))))))))))))) (by assumption) (by decide) (by decide) ?_); intro _))
local macro_rules | `(tactic| walk_at "storeName") => `(tactic| (refine Hold.stop ?_))
local macro_rules | `(tactic| walk_at "binaryOp Add ref ref") => `(tactic| (refine Hold.stop ?_))

set_option maxHeartbeats 1600000 in
theorem law_2 {w : World} {p : Program} {loose : List Str} {mean : ExcName → Option Value} {mg mb : Str → Option Value} {A : Around} {s : Shared} {Q : Flow → Shared → Prop} {L : Addr} {h : Heap} {tk : Nat} {m : Str → Option Value} {o1 o2 o3 o4 o5 o6 o7 : Obj} {ns : List Int} {Dn : Addr} {us : List Value} {kn : Nat}
    (X : (KK w.params).In s.heap) (T : Top p loose mean mg mb s.heap) (hA : Rm A 6) (ret : ∀ h' tk', Kp s.heap h' → Q (.ret (.bool true)) { s with heap := h', toks := tk' })
    (hus : IntsAre us (nms ns))
    (F : Fr s.heap L h m) (hP : Abv L [(Dn, listOf (List.toArray us) kn)]) (N : News s.heap L h [(Dn, listOf (List.toArray us) kn), (L + 1 + 1 + 1 + 1 + 1 + 1 + 1, o1), (L + 1 + 1 + 1 + 1 + 1 + 1, o2), (L + 1 + 1 + 1 + 1 + 1, o3), (L + 1 + 1 + 1 + 1, o4), (L + 1 + 1 + 1, o5), (L + 1 + 1, o6), (L + 1, o7)]) (d1 : o1.data = .cell none) (d2 : o2.data = .cell none) (d3 : o3.data = .cell none) (d4 : o4.data = .cell none) (d5 : o5.data = .cell none) (d6 : o6.data = .cell none) (d7 : o7.data = .cell (some (.ref Dn))) :
    LGo w A s Q L h tk 2 := by
  refine ⟨?_⟩
  have hA0 := hA
  obtain ⟨hh, hdp, hun⟩ := hA
  refine fill ?_
  k_fill
  intro _
  (with_unfolding_all show wpAny (model PG w) (A.deeper (envOfC _ (Scope.mk _ _ _ _ _) _ _ _)) (execs (_ :: _) (envOfC _ (Scope.mk _ _ _ _ _) _ _ _)) _ _ _)
  try dsimp only
  try k_fold
  k_steps
  refine no_implicit_lambda% (c_number (A := A.deeper _) (nn_bd ns (by decide) (by decide)) (nn_bd ns (by decide) (by decide)) (nn_bd ns (by decide) (by decide)) (X.keeps (Fr.keep ‹_›)) (T.keeps (Fr.keep ‹_›)) (Rm.le (n := 5) (Rm.deeper hA0) (by decide)) fun t9 h9 tk9 k9 => ?_)
  rename Fr _ _ _ _ => F1
  rename News _ _ _ _ => N1
  replace F1 := F1.keeps k9
  replace N1 := N1.grown k9
  clear k9
  try dsimp only
  try k_fold
  k_steps
  refine no_implicit_lambda% (c_number (A := A.deeper _) (nn_bd ns (by decide) (by decide)) (nn_bd ns (by decide) (by decide)) (nn_bd ns (by decide) (by decide)) (X.keeps (Fr.keep ‹_›)) (T.keeps (Fr.keep ‹_›)) (Rm.le (n := 5) (Rm.deeper hA0) (by decide)) fun t9 h9 tk9 k9 => ?_)
  rename Fr _ _ _ _ => F1
  rename News _ _ _ _ => N1
  replace F1 := F1.keeps k9
  replace N1 := N1.grown k9
  clear k9
  try dsimp only
  try k_fold
  k_steps
  rename Fr _ _ _ _ => F1
  rename News _ _ _ _ => N1
  refine Hold.go (storeX_L F1 N1 (fun h9 F9 N9 => ?_) rfl rfl)
  dsimp only
  have hgm : ∀ D : Addr, (fun y => if y = Str.ofString "given" then some (Value.ref D) else m y) (Str.ofString "given") = some (.ref D) := fun D => by simp
  obtain ⟨e⟩ := law_3 (m := fun y => if y = Str.ofString "given" then some (Value.ref _) else m y) X T hA0 ret hus (.cons _ _ (.cons _ _ .nil)) (hgm _) F9 (.cons (nca (by omega)) hP) N9 d1 d2 d3 d4 d5 d6 d7
  exact @e


end Mine

-- C16
namespace Mine
theorem topOff_C16 : True := by
  w_top off
  trivial
end Mine
namespace Mine
open PySem PySem.W PyProof.Rows PySem.Calls PySem.Spec
local macro_rules | `(tactic| walk_at "none such") => `(tactic| skip)
local macro_rules | `(tactic| walk_at "none such") => `(tactic| skip)
local macro_rules | `(tactic| walk_at "none such") => `(tactic| skip)
local macro_rules | `(tactic| walk_at "none such") => `(tactic| skip)
local macro_rules | `(tactic| walk_at "none such") => `(tactic| skip)
local macro_rules | `(tactic| walk_at "none such") => `(tactic| skip)
local macro_rules | `(tactic| walk_at "none such") => `(tactic| skip)
local macro_rules | `(tactic| walk_at "none such") => `(tactic| skip)
local macro_rules | `(tactic| walk_at "none such") => `(tactic| skip)
local macro_rules | `(tactic| walk_at "none such") => `(tactic| skip)
local macro_rules | `(tactic| walk_at "none such") => `(tactic| skip)
local macro_rules | `(tactic| walk_at "eval ListComp") => `(tactic| ((with_reducible apply comp_eval); (case hclos => with_unfolding_all rfl); (case hcell => decide); (case hkind => with_unfolding_all rfl); (case hnames => decide); (case hs => intro _; with_unfolding_all rfl)))
local macro_rules | `(tactic| walk_at "call ref") => `(tactic| (refine wpAny_call ?_))
local macro_rules | `(tactic| walk_at "exec Assign cons ListComp") => `(tactic| first
  | (refine' comp_assign ?hsw ?hclos ?hcell ?hkind ?hnames ?hs ?hy ?hp ?_; (case hsw => with_unfolding_all rfl); (case hclos => with_unfolding_all rfl); (case hcell => decide); (case hkind => with_unfolding_all rfl); (case hnames => decide); (case hs => intro _; with_unfolding_all rfl); (case hy => with_unfolding_all rfl); (case hp => with_unfolding_all rfl))
  | (refine wpAny_Assign_Name ?_ (by with_unfolding_all rfl)))

local macro_rules | `(tactic| walk_at "subscriptTail") => `(tactic| ((with_reducible show wpAny _ _ (subscriptTail (Expr.List _ _) _ _ _) _ _ _); refine Hold.stop ?_))
local macro_rules | `(tactic| walk_at "subscriptTail") => `(tactic| ((with_reducible show wpAny _ _ (subscriptTail _ _ (Value.ref _) (Value.int _ _)) _ _ _); refine Hold.stop ?_))
local macro_rules | `(tactic| walk_at "subscriptTail") => `(tactic| ((rename News _ _ _ _ => lN); k_dflt (refine item_nm (News.isList lN (by first | exact .head _ | exact .tail _ (.head _) | exact .tail _ (.tail _ (.head _)) | exact .tail _ (.tail _ (.tail _ (.head _))) | exact .tail _ (.tail _ (.tail _ (.tail _ (.head _)))) | exact .tail _ (.tail _ (.tail _ (.tail _ (.tail _ (.head _))))) | exact .tail _ (.tail _ (.tail _ (.tail _ (.tail _ (.tail _ (.head _)))))) | exact .tail _ (.tail _ (.tail _ (.tail _ (.tail _ (.tail _ (.tail _ (.head _))))))) | exact .tail _ (.tail _ (.tail _ (.tail _ (.tail _ (.tail _ (.tail _ (.tail _ (.head _)))))))) | exact .tail _ (.tail _ (.tail _ (.tail _ (.tail _ (.tail _ (.tail _ (.tail _ (.tail _ (.head _))))))))) | exact .tail _ (.tail _ (.tail _ (.tail _ (.tail _ (.tail _ (.tail _ (.tail _ (.tail _ (.tail _ (.head _)))))))))) | exact .tail _ (.tail _ (.tail _ (.tail _ (.tail _ (.tail _ (.tail _ (.tail _ (.tail _ (.tail _ (.tail _ (.head _))))))))))))) (by assumption) (by decide) (by decide) ?_); intro _))
local macro_rules | `(tactic| walk_at "storeName") => `(tactic| (refine Hold.stop ?_))
local macro_rules | `(tactic| walk_at "binaryOp Add ref ref") => `(tactic| (refine Hold.stop ?_))
theorem ints_dflt (t0 t1 t2 t3 t4 t5 t6 t7 t8 t9 t10 t11 t12 t13 : Tok) : IntsAre [.int 2 t0, .int 39 t1, .int 41 t2, .int 4 t3, .int 10 t4, .int 52 t5, .int 3 t6, .int 0 t7, .int 12 t8, .int 8 t9, .int 48 t10, .int 48 t11, .int 0 t12, .int 7 t13] dflt := .cons 2 _ (.cons 39 _ (.cons 41 _ (.cons 4 _ (.cons 10 _ (.cons 52 _ (.cons 3 _ (.cons 0 _ (.cons 12 _ (.cons 8 _ (.cons 48 _ (.cons 48 _ (.cons 0 _ (.cons 7 _ (.nil))))))))))))))
set_option maxHeartbeats 1600000 in
theorem c_law {w : World} {p : Program} {loose : List Str} {mean : ExcName → Option Value} {mg mb : Str → Option Value} {A : Around} {s : Shared} {R : Result → Shared → Prop} {l : Addr} {vs : List Value} {ns : List Int} (hl : s.heap.IsList l (List.toArray vs)) (hI : IntsAre vs ns) (hn : ns.length ≤ 63)
    (X : (KK w.params).In s.heap) (T : Top p loose mean mg mb s.heap) (hA : Rm A 6)
    (ret : ∀ h' tk', Kp s.heap h' → R (.ok (.ret (.bool true))) { s with heap := h', toks := tk' }) :
    codeAny (model PG w) A (.call (.ref 196) ⟨[.ref l], []⟩) R s := by
  refine fill ?_
  k_fill
  intro _
  have hA0 := hA
  obtain ⟨hh, hdp, hun⟩ := hA
  refine' enterC (binds := [(Str.ofString "script", .ref l)]) ?k3 ?k5 ?k8 ?k6 ?k7 ?k9 ?kB ?kD ?_ ?c2 ?c3 ?c4
  case k3 => exact X
  case k5 => exact T
  case k6 => k_is
  case k7 => k_is
  case k8 => (simp only [recursionLimit]; omega)
  case k9 => exact BindsTo.of_eq rfl
  case kB => exact rfl
  case kD => decide +kernel
  case c2 => exact rfl
  case c3 => exact rfl
  case c4 => exact rfl
  intro L h₁ tk₁ cells F N Y
  obtain ⟨oc1, oc2, oc3, oc4, oc5, oc6, oc7, hE, dc1, dc2, dc3, dc4, dc5, dc6, dc7⟩ := kc_seven Y
  subst hE
  clear Y

  replace dc1 : oc1.data = .cell none := dc1
  replace dc2 : oc2.data = .cell none := dc2
  replace dc3 : oc3.data = .cell none := dc3
  replace dc4 : oc4.data = .cell none := dc4
  replace dc5 : oc5.data = .cell none := dc5
  replace dc6 : oc6.data = .cell none := dc6
  replace dc7 : oc7.data = .cell none := dc7
  have F : Fr s.heap L h₁ (fun y => if y = Str.ofString "script" then some (.ref l) else none) := F
  try dsimp only
  try k_fold

  k_steps
  rename Fr _ _ _ _ => F1
  rename News _ _ _ _ => N1
  rename (IntsAre _ (List.take 14 ns)) => hI14
  refine' comp_listS (fun i m => ∃ t, m (Str.ofString "x") = some (.int ((ns.take 14).getD i 0) t)) (fun B i ys h => IntsAre ys (((ns.take 14).take i).map fun x : Int => x.fmod 64)) ?hh ?hns ?hl ?hn ?bind (fun _ _ => .nil) (fun _ _ _ _ _ _ h => h) ?turn ?done
  case hh => exact hh
  case hns => exact F1.ns
  case hl => exact News.isList N1 (.head _)
  case hn => (have := ints_len hI14; rw [List.size_toArray, this, List.length_take]; omega)
  case bind =>
    intro i v C hv _
    obtain ⟨t, rfl⟩ := ints_at hI14 (by simpa using hv)
    exact (bind_name rfl rfl).imp fun m hm => ⟨t, hm⟩
  case turn =>
    intro B i ys C h₃ tk₃ m₃ hi hJ hC hB hns hMM hk
    obtain ⟨t, hm⟩ := hMM
    have hi : i < (ns.take 14).length := by have := ints_len hI14; rw [List.size_toArray] at hi; omega
    have F3 := frC F1 hns hC hk
    have N3 := nwC N1 hC hk
    unfold VTurnJ
    refine wpAny_tests_nil ?_
    simp only [if_true]
    try dsimp only
    try k_fold
    k_steps
    · exact ints_step hJ hi
    · exact keeps_of fun _ _ e => e
  case done =>
    intro B D h' tk' ys hJ hD hl' hn' hk'
    rename Fr _ _ _ _ => F1
    have F2 := fr_store F1 hn' hk'
    have N2 := nw_store (fun p hp => N1 p (.tail _ hp)) hk'
    obtain ⟨kD, N2⟩ := nw_add F1 N2 hD hl'
    have hys : IntsAre ys (drw ns) := by
      have := ints_len hI14
      rw [List.size_toArray, this, List.take_length] at hJ
      exact hJ
    have hyl : ys.length = (drw ns).length := ints_len hys
    have hdl := drw_len ns
    clear F1 N1 hk' hl' hn' hI14 hJ hD
    try dsimp only
    try k_fold
    k_steps
    rename Fr _ _ _ _ => F3
    rename News _ _ _ _ => N3
    refine Hold.go (kba_turn (value' := PySem.Expr.Name (PySem.Str.ofString "_") ⟨0, 0, 0, 0⟩) (fun _ => rfl) ?_)
    refine (kmk_slice_ints F3 N3 (News.isList N3 (.head _)) (IsPart.int _ _) IsPart.none (ints_dflt _ _ _ _ _ _ _ _ _ _ _ _ _ _) (kmk_from (ints_dflt _ _ _ _ _ _ _ _ _ _ _ _ _ _) (Int.natCast_nonneg _)) rfl (fun D9 ws9 h9 F9 N9 l9 hw9 _ _ => ?_) (by with_unfolding_all rfl) (by intro _; with_unfolding_all rfl) (Nat.le_of_ble_eq_true rfl))
    rw [Int.toNat_natCast] at hw9
    clear F3 N3
    try dsimp only
    try k_fold
    k_steps
    rename Fr _ _ _ _ => F3
    rename News _ _ _ _ => N3
    refine Hold.go (kmk_add_ints F3 N3 (News.isList N3 (.tail _ (.tail _ (.head _)))) (News.isList N3 (.head _)) hys hw9 (fun D8 us h8 F8 N8 l8 hus => ?_) (by have : dflt.length = 14 := rfl; simp [List.length_drop, sizeLine_eq]; omega))
    have hus : IntsAre us (nms ns) := hus
    replace N8 : News s.heap L h8 ([(D8, listOf (List.toArray us) 0)] ++ CLs L oc1 oc2 oc3 oc4 oc5 oc6 oc7) := fun p hp => N8 p ((show SubL ([(D8, listOf (List.toArray us) 0)] ++ CLs L oc1 oc2 oc3 oc4 oc5 oc6 oc7) _ by k_subL).mem p hp)
    have q8 : Abv L [(D8, listOf (List.toArray us) 0)] := .cons (nca (l8 (_, oc1) (.tail _ (.tail _ (.tail _ (.head _)))))) .nil
    clear F3 N3 hys hyl hw9 hdl l9 l8
    dsimp only [qk]
    try k_fold
    k_steps
    refine Hold.go (storeX_C F8 N8 (c := L + 1) rfl (cellU7 q8) dc7 (fun h9 o7 F9 N9 dd7 => ?_) rfl rfl)
    clear F8 N8 dc7
    dsimp only
    obtain ⟨e⟩ := law_2 (A := A) (s := s) (w := w) (L := L) (h := h9) X T hA0 (Q := fun fl s' => R (.ok (.ret (match fl with | .ret v => v | _ => .none))) s') (fun h' tk' k => ret h' tk' k) hus F9 q8 N9 dc1 dc2 dc3 dc4 dc5 dc6 dd7
    exact @e
end Mine

-- HL
set_option maxHeartbeats 2000000
namespace Mine
open PySem PySem.W PyProof.Rows
/-- the program -/
abbrev pg : Program := PySem.Challenge.pw_in0252_01
/-- what is told of its text: the statement that brings in a module, and the law; all other names may be bound to anything -/
noncomputable abbrev vw : Program := view pg [0, 46]
abbrev lo : List Str := [Str.ofString "StatisticsError", Str.ofString "median_low", Str.ofString "median_high", Str.ofString "_twin_re_1", Str.ofString "translate", Str.ofString "_special_chars_map", Str.ofString "escape", Str.ofString "_translate", Str.ofString "_join_translated_parts", Str.ofString "S_IFMT", Str.ofString "S_IFDIR", Str.ofString "S_IFCHR", Str.ofString "S_IFBLK", Str.ofString "S_IFREG", Str.ofString "S_IFIFO", Str.ofString "S_IFLNK", Str.ofString "S_IFSOCK", Str.ofString "S_ISUID", Str.ofString "S_ISGID", Str.ofString "S_ISVTX", Str.ofString "S_IRUSR", Str.ofString "S_IWUSR", Str.ofString "S_IXUSR", Str.ofString "S_IRGRP", Str.ofString "S_IWGRP", Str.ofString "S_IXGRP", Str.ofString "S_IROTH", Str.ofString "S_IWOTH", Str.ofString "S_IXOTH", Str.ofString "_filemode_table", Str.ofString "filemode", Str.ofString "_law_number", Str.ofString "_law_back", Str.ofString "_law_signs", Str.ofString "_law_pattern", Str.ofString "_law_read", Str.ofString "_law_over", Str.ofString "_law_takes", Str.ofString "_law_third"]
noncomputable abbrev XT : Shared → Bool := fun s => xlAt vw [] s && recOk PySem.Challenge.rw_in0252_01.row.records s
noncomputable abbrev HH : Hook := kHook KK [3, 32, 39, 40, 41, 42, 45, 47, 48, 50, 51, 52, 54, 55, 57, 58, 62, 63, 64, 66, 67, 69, 70, 72, 76, 78, 79, 81, 82, 83, 85, 86, 88, 89, 90, 92, 93, 95, 96, 97, 99, 100, 102, 103, 104, 105, 106, 107, 108, 109, 110, 111, 112, 113, 114, 115, 116, 117, 118, 119, 120, 121, 122, 123, 124, 125, 126, 127, 128, 129, 130, 131, 132, 133, 134, 135, 136, 137, 139, 140, 142, 143, 144, 146, 147, 149, 150, 151, 153, 154, 156, 157, 158, 161, 162, 163, 165, 166, 168, 169, 170, 172, 173, 175, 176, 177, 180, 181, 182, 185, 186, 187, 190, 191, 192, 195, 196] (fun _ => by kernel_rfl)
theorem okLaw : OpenLaw.wellSaid PySem.Challenge.rw_in0252_01 = true := by
  rw [show @OpenLaw.wellSaid = PySem.W.Fast.tw9446332074065402090 from PySem.W.Fast.te9446332074065402090]
  kernel_rfl
noncomputable abbrev looksQ (s : Shared) := (PySem.W.Fast.tw4187177175401517315 vw lo (PySem.W.Fast.tw5923862056798008813 pg.main.body) XT true s, HH.obs s)
/-- what a run is to show in a world -/
def RunOk (w : World) : Prop := (runQ pg 4966 w).map looksQ = some (openGood vw lo, HH.val w)
theorem run0 : ∀ w : World, RunOk ((w.withFollow "special-get-raises" false).withFollow "comprehension-iter-twice" false) := by
  intro w; delta RunOk; kernel_rfl
theorem run1 : ∀ w : World, RunOk ((w.withFollow "special-get-raises" true).withFollow "comprehension-iter-twice" false) := by
  intro w; delta RunOk; kernel_rfl
theorem run2 : ∀ w : World, RunOk ((w.withFollow "special-get-raises" false).withFollow "comprehension-iter-twice" true) := by
  intro w; delta RunOk; kernel_rfl
theorem run3 : ∀ w : World, RunOk ((w.withFollow "special-get-raises" true).withFollow "comprehension-iter-twice" true) := by
  intro w; delta RunOk; kernel_rfl
theorem runs : ∀ w : World, RunOk w :=
  byRow2 "comprehension-iter-twice" (P := RunOk) (byRow2 "special-get-raises" (P := fun w => RunOk (w.withFollow "comprehension-iter-twice" false)) run0 run1)
    (byRow2 "special-get-raises" (P := fun w => RunOk (w.withFollow "comprehension-iter-twice" true)) run2 run3)
theorem hl : LeftO pg vw lo XT HH.obs HH.val 4966 := fun w => by
  have key : (runQ pg 4966 w).map looksQ = some (openGood vw lo, HH.val w) := runs w
  obtain ⟨s, h1, h2⟩ := Option.map_eq_some_iff.mp key
  rw [runQ_of h1]
  refine congrArg some (Eq.trans ?_ h2)
  show (openSeen vw lo (importedModules pg.main.body) XT true s, HH.obs s) = _
  rw [PySem.W.Fast.te4187177175401517315, PySem.W.Fast.te5923862056798008813]
end Mine

-- FIN
namespace Mine
theorem topOff_FIN : True := by
  w_top off
  trivial
end Mine
namespace Mine
open PySem PySem.W PyProof.Rows PySem.Calls PySem.Spec
theorem lawH : PySem.Challenge.rw_in0252_01.Holds := by
  w_on
  refine holds_law okLaw fun said => ?_
  refine holds_open (q := vw) (loose := lo) (Xt := XT) (XP := XL vw []) (Yf := HH.obs) (Ya := HH.val) (YP := HH.says) (N := 4966) hl HH.of HH.keeps (fun s e => xl_of s (Bool.and_eq_true_iff.mp e).1) XL.keeps
    (by rfl) (by rfl) (by rfl) (fun s e => recFacts_of (Bool.and_eq_true_iff.mp e).2) (by rfl) said (by decide +kernel) ⟨rfl, rfl, rfl, rfl, rfl, by decide +kernel⟩ ⟨[.list []], by decide +kernel, by decide +kernel⟩ ?_
  w_strict (
    k_fill;
    intro w s₀ s₁ mg mb G Y fa o pm cd doc dV kV ho hd hcd hD hmg hg args vals as hpre hlay hrd hwl hlo;
    have KX := kIn_of Y;
    refine Ground.open G ?_;
    intro T B D TE TW;
    have e1 := mg_of (n := PySem.Str.ofString "law") (v := Value.ref 196) KX T.g (by rfl);
    have e2 := hmg.symm.trans e1;
    cases e2;
    clear hmg;
    wrow_args hpre hlay hrd hwl hlo;
    (first | refine callC_kw (enter_call ?_) | refine enter_call ?_ | refine callC_kw (enter_callW ?_) | refine enter_callW ?_);
    refine c_law (by assumption) (by assumption) (by omega) KX T ⟨rfl, by decide, by decide⟩ (fun h' tk' k => ?_);
    refine GoodW.toG ?_;
    refine ⟨.inl ⟨.bool true, .bool true, [], rfl, ?ra, ?rd, ?po, ?un⟩, k, rfl, hg⟩;
    (case ra => intro cls; rfl);
    (case rd => exact .bool true);
    (case po => exact postW_of rfl (w_eq_bool (w_res rfl) w_lit) rfl);
    (case un => exact fun _ => ⟨.nil, fun _ h => nomatch h⟩))
end Mine

theorem PySem.Challenge.cw_in0252_01_holds : PySem.Challenge.rw_in0252_01.Holds := by
  exact Mine.lawH
