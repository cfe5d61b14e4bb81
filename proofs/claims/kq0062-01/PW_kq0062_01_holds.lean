import PyProof.Rows.All
import Wide.All
import OpenK.AllK
import Wide.FinOn
import PySem.Sre
import KE.KxBytes
import KE.KxDecode
import KE.KFromBytes
import KE.BitLaws
import PySem.Challenge.RW_kq0062_01
set_option Elab.async false
set_option compiler.extract_closed false
section PartHdN
open PySem PySem.W PyProof.Rows
set_option Elab.async false
namespace Mine
/-- the statements of the text that the view keeps, by their places -/
noncomputable def keepL {α : Type} : List Bool → List α → List α
  | true :: r, x :: l => x :: keepL r l
  | false :: r, _ :: l => keepL r l
  | _, _ => []
noncomputable abbrev kept : List Bool := [true, true, false, true, true, true, true, false, true, true, false, true, true, true, true, true, true, false, false, false, false, false, false, true, true, false, true, true, false, true, true, false, true, true, true, true, true, true, true, true]
noncomputable def vw : Program := { PySem.Challenge.rw_kq0062_01.row.prog with main := { PySem.Challenge.rw_kq0062_01.row.prog.main with body := keepL kept PySem.Challenge.rw_kq0062_01.row.prog.main.body } }
noncomputable abbrev lse : List Str := [Str.ofString "twin_re_1_smtplib", Str.ofString "_twin_re_2", Str.ofString "bytes_types", Str.ofString "a2b_base64", Str.ofString "b2a_base64", Str.ofString "b64encode", Str.ofString "b64decode", Str.ofString "twin_re_1_fnmatch", Str.ofString "_special_chars_map"]
set_option maxRecDepth 100000 in
set_option maxHeartbeats 2000000 in
theorem well : PySem.Challenge.rw_kq0062_01.wellSaid = true := by
  unfold OpenLaw.wellSaid OpenRow.wellSaid OpenRow.partSaid looksOpen
  rw [Fast.te11788848310118352699, Fast.te2368527892694137696, Fast.te9807087744658564304, Fast.te12862048085361865435, Fast.te8377067652309620493, R.allR_eq, Fast.te18344453789297297638, Fast.te3471404346716756564, Fast.sDec_eq, Fast.te14412699480532031325, Fast.te8326940854005059898, Fast.te5923862056798008813, Fast.te17691160309236699985, R.filterR_eq, Fast.te13343964577679436407, Fast.te17119622794617984870, Fast.te17868728402115742887, Fast.te9706382859710513879, S.strDecS_eq, Fast.te2357444279172408678, R.mapR_eq, Fast.te4857012375875476094, Fast.named_eq, Fast.te13582783067957832011, Fast.te5318747976498570220, Fast.te4579403493507170074, R.anyR_eq, Fast.te4274047373036748609, Fast.te12749700546528644094, Fast.te10501279942588096481, Fast.te8179353310426384613, Fast.te797321630700447069, Fast.te9572597257264208301, Fast.te9558739934217749035, Fast.te16286561074155671207, Fast.te6984425678791042302, Fast.te17095254045102204799, Fast.te12879404354523853263, Fast.te482687673346738481, Fast.te10792542408131684335, Fast.te7723801398212525404]
  with_reducible repeat' refine look_both ?_ ?_
  all_goals decide +kernel
theorem four {P : World → Prop} (r1 r2 : String) (a : ∀ w : World, P ((w.withFollow r2 false).withFollow r1 false)) (b : ∀ w : World, P ((w.withFollow r2 true).withFollow r1 false)) (c : ∀ w : World, P ((w.withFollow r2 false).withFollow r1 true)) (d : ∀ w : World, P ((w.withFollow r2 true).withFollow r1 true)) : ∀ w : World, P w :=
  fun w => byRow2 r1 (fun w => byRow2 r2 (P := fun w => P (w.withFollow r1 false)) a b w) (fun w => byRow2 r2 (P := fun w => P (w.withFollow r1 true)) c d w) w
local macro_rules | `(tactic| o_head $_) => `(tactic| skip)
set_option maxRecDepth 100000 in
set_option maxHeartbeats 0 in
/-- nothing leans on this theorem (its premise is false): k_head makes the constant hd.heap_1, and that is all that it is here for -/
theorem hd (hany : ∀ P : Prop, P) : PySem.Challenge.rw_kq0062_01.Holds := by
  w_on
  refine holds_law (hany _) fun said => ?_
  k_head
  exact hany _
  w_top off
end Mine
end PartHdN
section PartLft
open PySem PySem.W PyProof.Rows
set_option Elab.async false
namespace Mine
/-- the machine over a tree of objects, from the top's start to its end; its parts are given, so that faster ones can be put in -/
noncomputable def topRunG (thr ok : Thread → Bool) (st : SharedT → Thread → Option (SharedT × Thread)) : Nat → SharedT → Thread → Option SharedT
  | 0, _, _ => none
  | n + 1, s, t => match thr t with
    | true => some s
    | false => match ok t with
      | false => none
      | true => match st s t with
        | some (s', t') => topRunG thr ok st n s' t'
        | none => none
theorem topRun_of {tb : String → Option Builtin} {p : Program} {w : World} {n₀ : Nat} {ann : Option Value} : ∀ {n : Nat} {s s' : SharedT} {t : Thread}, topRunG through (stepOk n₀ ann) (stepT (denote tb) p w) n s t = some s' → topRun tb p w n₀ ann n s.abs t = some s'.abs
  | 0, _, _, _, h => by cases h
  | n + 1, s, s', t, h => by
    unfold topRunG at h
    unfold topRun
    cases he : through t with
    | true => rw [he] at h; cases h; rfl
    | false =>
      rw [he] at h
      cases hk : stepOk n₀ ann t with
      | false => rw [hk] at h; cases h
      | true =>
        rw [hk] at h
        cases hs : stepT (denote tb) p w s t with
        | none => rw [hs] at h; cases h
        | some r => obtain ⟨s₂, t₂⟩ := r; rw [hs] at h; simp only [stepT_spec hs]; exact topRun_of h
/-- a list of objects as a tree -/
noncomputable def fillT : BT → Nat → List Obj → Option (BT × Nat)
  | T, n, [] => some (T, n)
  | T, n, o :: l => match ((T.ins n o).get n).isSome with
    | true => fillT (T.ins n o) (n + 1) l
    | false => none
theorem fillT_abs (life : Life) : ∀ {l : List Obj} {T T' : BT} {n n' : Nat}, fillT T n l = some (T', n') → absHeap T' n' life = ⟨(absHeap T n life).objs ++ l.toArray, life⟩
  | [], T, T', n, n', h => by
    cases h
    show absHeap T n life = ⟨(absHeap T n life).objs ++ #[], life⟩
    rw [Array.append_empty]; rfl
  | o :: l, T, T', n, n', h => by
    unfold fillT at h
    cases e : ((T.ins n o).get n).isSome with
    | false => rw [e] at h; cases h
    | true =>
      rw [e] at h
      rw [fillT_abs life h, absHeap_ins e]
      show (⟨(absHeap T n life).objs.push o ++ l.toArray, life⟩ : Heap) = ⟨(absHeap T n life).objs ++ (o :: l).toArray, life⟩
      congr 1
      apply Array.toList_inj.mp
      simp
/-- the state with its objects in a tree -/
noncomputable def asTree (s : Shared) : Option SharedT := (fillT .nil 0 s.heap.objs.toList).map fun q => ⟨q.1, q.2, s.heap.life, s.gens, s.drawn, s.toks, s.os⟩
theorem asTree_abs {s : Shared} {t : SharedT} (h : asTree s = some t) : t.abs = s := by
  unfold asTree at h
  obtain ⟨q, hq, rfl⟩ := Option.map_eq_some_iff.mp h
  obtain ⟨⟨objs, life⟩, gens, drawn, toks, os⟩ := s
  have := fillT_abs life hq
  show (⟨absHeap q.1 q.2 life, gens, drawn, toks, os⟩ : Shared) = _
  rw [this]
  congr 2
  show #[] ++ objs.toList.toArray = objs
  simp
noncomputable def adr : List Addr := [2, 3, 32, 34, 35, 37, 38, 42, 43, 47, 48, 49, 51, 52, 54, 55, 56, 57, 59, 60, 62, 63, 64, 71, 72, 73, 74, 77, 79,
      80, 82, 83, 84, 86, 87, 89, 90, 91, 93, 94, 96, 97, 98, 100, 101, 103, 104, 105, 106, 108, 109, 111, 112, 113,
      114, 116, 117, 119, 120, 121, 122, 124, 125, 127, 128, 129, 130, 132, 133, 135, 136, 140, 141, 142, 144, 145, 147,
      148, 150, 154, 156, 157, 159, 160, 161, 163, 164, 166, 167, 168, 170, 171, 173, 174, 175, 177, 178, 180, 181, 182,
      185, 186, 187, 189, 190, 192, 193, 194, 197, 198, 199, 201, 202, 204, 205, 206, 209, 210, 211, 214, 215, 216, 219,
      220]
theorem adr_is : ∀ P, adr = (hd.heap_1 P).map (·.1) := fun _ => by kernel_rfl
noncomputable abbrev hk : Hook := kmHook hd.heap_1 adr adr_is [162]
noncomputable def LeftAt (w : World) : Prop := (openEnds treeTable PySem.Challenge.rw_kq0062_01.row.prog w 5090).map (fun s => (openSeen vw lse (importedModules PySem.Challenge.rw_kq0062_01.row.prog.main.body) (fun s => xlAt vw [] s && recOk (RowW.records PySem.Challenge.rw_kq0062_01.row.toRowW) s) true s, hk.obs s)) = some (openGood vw lse, hk.val w)
/-- the top, over a tree of objects -/
noncomputable def treeEnds (p : Program) (w : World) (N : Nat) {α : Type} (look : Shared → α) : Option α :=
  (fencedOpening treeTable p w N).bind fun s₀ => match s₀.heap.isNs mainGlobals && s₀.gens.size == 0 with
    | true => (asTree s₀).bind fun t₀ => (topRunG through (stepOk s₀.heap.objs.size (s₀.heap.nsMap mainGlobals "__annotations__")) (stepT (denote treeTable) p w) N t₀ (topStub p)).bind fun t₁ =>
      match staticsOk (importedModules p.main.body) s₀.heap t₁.abs.heap && namesBound p t₁.abs.heap && gensDone t₁.abs && laidKept s₀.heap t₁.abs.heap with
      | true => some (look t₁.abs)
      | false => none
    | false => none
theorem treeEnds_of {p : Program} {w : World} {N : Nat} {α : Type} {look : Shared → α} {v : α} (h : treeEnds p w N look = some v) : (openEnds treeTable p w N).map look = some v := by
  unfold treeEnds at h
  unfold openEnds
  obtain ⟨s₀, h1, h2⟩ := Option.bind_eq_some_iff.mp h
  rw [h1]
  show (topFrom treeTable p w N s₀).map look = some v
  unfold topFrom
  cases e1 : s₀.heap.isNs mainGlobals && s₀.gens.size == 0 with
  | false => rw [e1] at h2; cases h2
  | true =>
    rw [e1] at h2
    obtain ⟨t₀, h3, h4⟩ := Option.bind_eq_some_iff.mp h2
    obtain ⟨t₁, h5, h6⟩ := Option.bind_eq_some_iff.mp h4
    have h7 := topRun_of h5
    rw [asTree_abs h3] at h7
    cases e2 : staticsOk (importedModules p.main.body) s₀.heap t₁.abs.heap && namesBound p t₁.abs.heap && gensDone t₁.abs && laidKept s₀.heap t₁.abs.heap with
    | false => rw [e2] at h6; cases h6
    | true =>
      rw [e2] at h6
      show Option.map look (Option.bind (topRun treeTable p w s₀.heap.objs.size (s₀.heap.nsMap mainGlobals "__annotations__") N s₀ (topStub p)) _) = some v
      rw [h7]
      show Option.map look (match staticsOk (importedModules p.main.body) s₀.heap t₁.abs.heap && namesBound p t₁.abs.heap && gensDone t₁.abs && laidKept s₀.heap t₁.abs.heap with | true => some t₁.abs | false => none) = some v
      rw [e2]
      exact h6
set_option maxRecDepth 100000 in
/-- the head's look, said in the library's quick twins, and that it tells what is asked -/
noncomputable def leftQ : { Q : World → Prop // ∀ w : World, Q w → LeftAt w } :=
  ⟨_, fun w h => treeEnds_of (by
  unfold treeEnds fencedOpening openSeen openGood asTree staticsOk namesBound laidKept
  rw [Fast.te10274390034422433532, Fast.te14364793385576792824, Fast.te2368527892694137696, Fast.te1435165496053646825, Fast.te14289696077712309145, Fast.te6613529449190102663, Fast.te8920871248978507458, Fast.te10156331382660048174, Fast.te11892475500146522536, R.allR_eq, Fast.te15056007747304108558, Fast.te4857012375875476094, Fast.te1584917186373303978, R.anyR_eq, Fast.te5923862056798008813, Fast.te3471404346716756564, Fast.sDec_eq, Fast.te14846217769314788766, Fast.te7966671052430208091, Fast.te12749700546528644094, Fast.te18344453789297297638, Fast.te5160383126252970620, R.mapR_eq, Fast.te3399658132070893891, Fast.te5991557255702980513, Fast.te10880121769531294198, Fast.te821141287760084731, Fast.te7409074990110511671, Fast.te13664370479719496447, Fast.te14722251495701143533, Fast.te10994771534591457954, Fast.te479339242167458305, Fast.te16090120013241838585, Fast.te3247288618530077131, Fast.te2386780881361962483, Fast.te11698064438423848299, Fast.te7317090234206586261, Fast.te7369524293546568484]
  exact h)⟩
set_option maxRecDepth 100000 in
theorem left_ff : ∀ w : World, LeftAt ((w.withFollow "special-get-raises" false).withFollow "comprehension-iter-twice" false) := by
  intro w
  refine leftQ.2 _ ?_
  show _ = _
  kernel_rfl
set_option maxRecDepth 100000 in
theorem left_tf : ∀ w : World, LeftAt ((w.withFollow "special-get-raises" true).withFollow "comprehension-iter-twice" false) := by
  intro w
  refine leftQ.2 _ ?_
  show _ = _
  kernel_rfl
set_option maxRecDepth 100000 in
theorem left_ft : ∀ w : World, LeftAt ((w.withFollow "special-get-raises" false).withFollow "comprehension-iter-twice" true) := by
  intro w
  refine leftQ.2 _ ?_
  show _ = _
  kernel_rfl
set_option maxRecDepth 100000 in
theorem left_tt : ∀ w : World, LeftAt ((w.withFollow "special-get-raises" true).withFollow "comprehension-iter-twice" true) := by
  intro w
  refine leftQ.2 _ ?_
  show _ = _
  kernel_rfl
theorem left_all : ∀ w : World, LeftAt w := four "comprehension-iter-twice" "special-get-raises" left_ff left_tf left_ft left_tt
end Mine
end PartLft
section PartRex
namespace Mine
open PySem PySem.Sre
namespace Rx

theorem runFor_some {m : M} (h : m.outcome.isSome = true) : ∀ n, M.runFor n m = m
  | 0 => rfl
  | n + 1 => by unfold M.runFor; rw [if_pos h]

theorem runFor_succ (n : Nat) (m : M) : M.runFor (n + 1) m = M.runFor n m.step := by
  conv => lhs; unfold M.runFor
  by_cases h : m.outcome.isSome = true
  · rw [if_pos h]
    have : m.step = m := by unfold M.step; rw [if_pos h]
    rw [this, runFor_some h]
  · rw [if_neg h]

theorem runFor_add (a b : Nat) (m : M) : M.runFor (a + b) m = M.runFor b (M.runFor a m) := by
  induction a generalizing m with
  | zero => rw [Nat.zero_add]; rfl
  | succ a ih => rw [Nat.add_right_comm, runFor_succ, runFor_succ, ih]

/-- from m the machine comes in at most n steps to m' -/
noncomputable def To (n : Nat) (m m' : M) : Prop := ∃ k, k ≤ n ∧ M.runFor k m = m'
theorem To.refl (m : M) : To 0 m m := ⟨0, Nat.le_refl _, rfl⟩
theorem To.step {n : Nat} {m m₁ m' : M} (e : m.step = m₁) (h : To n m₁ m') : To (n + 1) m m' := by
  obtain ⟨k, hk, e'⟩ := h
  exact ⟨k + 1, Nat.succ_le_succ hk, by rw [runFor_succ, e, e']⟩
theorem To.trans {a b : Nat} {m m₁ m' : M} (h : To a m m₁) (h' : To b m₁ m') : To (a + b) m m' := by
  obtain ⟨k, hk, e⟩ := h
  obtain ⟨k', hk', e'⟩ := h'
  exact ⟨k + k', Nat.add_le_add hk hk', by rw [runFor_add, e, e']⟩
theorem To.mono {a b : Nat} {m m' : M} (h : To a m m') (hab : a ≤ b) : To b m m' := let ⟨k, hk, e⟩ := h; ⟨k, Nat.le_trans hk hab, e⟩

noncomputable def code1 : Array Nat := #[14, 4, 0, 1, 1, 6, 1, 16, 46, 1]
noncomputable def code2 : Array Nat := #[14, 9, 4, 1, 2, 16, 10, 16, 13, 0, 7, 7, 16, 13, 16, 10, 15, 18, 5, 16, 10, 15, 13, 11, 16, 13, 5, 5, 0, 16, 10, 1, 15, 2, 0, 1]

end Rx
end Mine
end PartRex
section PartRex1
namespace Mine
open PySem PySem.Sre
namespace Rx
noncomputable def fr1 (s : Nat) (first : Bool) : PySem.Sre.Frame := { wait := .nextStart, pc := 5, pos := s, outermost := first }
/-- regex 1, at pc, a start s tried -/
noncomputable def st1 (text : Array Nat) (lim s pc pos handed : Nat) (first : Bool) (answer : Option Bool) (frames : List PySem.Sre.Frame) (weight : Nat) (seen : Seen) (outcome : Option PySem.Sre.Outcome) : M :=
  { code := code1, text, lim, start := s, lastStart := lim, pc, pos, handed, outermost := first, marks := #[], frames, weight, answer, seen, outcome }

variable {text : Array Nat} {lim s : Nat} {first : Bool} {seen : Seen}

theorem search1 (h : s < lim) : ∃ seen, forSearch code1 text 0 s lim false = st1 text lim s 5 s s true none [fr1 s true] 1 seen none := by
  have hc : ¬ ((s > lim || lim - s < 1) = true) := by simp; omega
  refine ⟨({} : Seen).add 14, ?_⟩
  show (if (s > lim || lim - s < 1) = true then _ else _) = _
  rw [if_neg hc]
  rfl
theorem at1 : (st1 text lim s 5 s s first none [fr1 s first] 1 seen none).step =
    if (s == 0 || text.getD (s - 1) 0 == 10) = true then st1 text lim s 7 s s first none [fr1 s first] 1 ((seen.add 6).add 44) none
    else st1 text lim s 5 s s first (some false) [fr1 s first] 1 ((seen.add 6).add 44) none := rfl
theorem lit1_end (h : lim ≤ s) : (st1 text lim s 7 s s first none [fr1 s first] 1 seen none).step = st1 text lim s 7 s s first (some false) [fr1 s first] 1 (seen.add 16) none := by
  show (if s ≥ lim then st1 text lim s 7 s s first (some false) [fr1 s first] 1 (seen.add 16) none else _) = _
  rw [if_pos h]
theorem lit1_yes (h : s < lim) (hc : text.getD s 0 = 46) : (st1 text lim s 7 s s first none [fr1 s first] 1 seen none).step = st1 text lim s 9 (s + 1) s first none [fr1 s first] 1 (seen.add 16) none := by
  show (if s ≥ lim then _ else match (Except.ok (text.getD s 0 == 46, seen.add 16) : Except String (Bool × Seen)) with
    | .error why => _
    | .ok (false, seen) => _
    | .ok (true, seen) => _) = _
  rw [if_neg (Nat.not_le.mpr h), hc]
  rfl
theorem lit1_no (h : s < lim) (hc : text.getD s 0 ≠ 46) : (st1 text lim s 7 s s first none [fr1 s first] 1 seen none).step = st1 text lim s 7 s s first (some false) [fr1 s first] 1 (seen.add 16) none := by
  have hb : (text.getD s 0 == 46) = false := by simpa using hc
  show (if s ≥ lim then _ else match (Except.ok (text.getD s 0 == 46, seen.add 16) : Except String (Bool × Seen)) with
    | .error why => _
    | .ok (false, seen) => _
    | .ok (true, seen) => _) = _
  rw [if_neg (Nat.not_le.mpr h), hb]
  rfl
theorem success1 : (st1 text lim s 9 (s + 1) s first none [fr1 s first] 1 seen none).step = st1 text lim s 9 (s + 1) (s + 1) first (some true) [fr1 s first] 1 (seen.add 1) none := by
  show (if (first && ((false && (s + 1) != lim) || (false && (s + 1) == s))) = true then _ else _) = _
  rw [if_neg (by simp)]
  rfl
theorem back_yes1 {pos handed pc : Nat} : (st1 text lim s pc pos handed first (some true) [fr1 s first] 1 seen none).step = st1 text lim s 5 s handed first (some true) [] 0 seen none := rfl
theorem out_yes1 {pos handed pc : Nat} : (st1 text lim s pc pos handed first (some true) [] 0 seen none).step = st1 text lim s pc pos handed first (some true) [] 0 seen (some .matched) := rfl
theorem back_no1 {pos handed pc : Nat} (h : s < lim) : (st1 text lim s pc pos handed first (some false) [fr1 s first] 1 seen none).step = st1 text lim (s + 1) 5 (s + 1) (s + 1) false none [fr1 (s + 1) false] 1 seen none := by
  show (if s < lim then _ else _) = _
  rw [if_pos h]
  rfl
theorem back_last1 {pos handed pc : Nat} (h : ¬ s < lim) : (st1 text lim s pc pos handed first (some false) [fr1 s first] 1 seen none).step = st1 text lim s 5 s handed first (some false) [] 0 seen none := by
  show (if s < lim then _ else _) = _
  rw [if_neg h]
  rfl
theorem out_no1 {pos handed pc : Nat} : (st1 text lim s pc pos handed first (some false) [] 0 seen none).step = st1 text lim s pc pos handed first (some false) [] 0 seen (some .failed) := rfl

/-- does the pattern match at s? -/
noncomputable def hit1 (text : Array Nat) (lim s : Nat) : Bool := (s == 0 || text.getD (s - 1) 0 == 10) && decide (s < lim) && text.getD s 0 == 46

theorem hits1 (h : hit1 text lim s = true) : ∃ m', To 5 (st1 text lim s 5 s s first none [fr1 s first] 1 seen none) m' ∧ m'.outcome = some .matched ∧ m'.start = s ∧ m'.handed = s + 1 := by
  unfold hit1 at h
  simp only [Bool.and_eq_true, decide_eq_true_eq, beq_iff_eq] at h
  obtain ⟨⟨h1, h2⟩, h3⟩ := h
  refine ⟨_, .step (at1.trans (if_pos h1)) (.step (lit1_yes h2 h3) (.step success1 (.step back_yes1 (.step out_yes1 (.refl _))))), rfl, rfl, rfl⟩
theorem misses1 (h : hit1 text lim s = false) (hs : s < lim) : ∃ seen', To 3 (st1 text lim s 5 s s first none [fr1 s first] 1 seen none) (st1 text lim (s + 1) 5 (s + 1) (s + 1) false none [fr1 (s + 1) false] 1 seen' none) := by
  unfold hit1 at h
  by_cases h1 : (s == 0 || text.getD (s - 1) 0 == 10) = true
  · have h3 : text.getD s 0 ≠ 46 := by
      intro e; rw [h1, e] at h; simp [hs] at h
    exact ⟨_, .step (at1.trans (if_pos h1)) (.step (lit1_no hs h3) (.step (back_no1 hs) (.refl _)))⟩
  · exact ⟨_, (To.step (at1.trans (if_neg h1)) (.step (back_no1 hs) (.refl _))).mono (by omega)⟩
theorem ends1 (hs : s = lim) : ∃ m', To 4 (st1 text lim s 5 s s first none [fr1 s first] 1 seen none) m' ∧ m'.outcome = some .failed := by
  by_cases h1 : (s == 0 || text.getD (s - 1) 0 == 10) = true
  · exact ⟨_, .step (at1.trans (if_pos h1)) (.step (lit1_end (Nat.le_of_eq hs.symm)) (.step (back_last1 (by omega)) (.step out_no1 (.refl _)))), rfl⟩
  · exact ⟨_, (To.step (at1.trans (if_neg h1)) (.step (back_last1 (by omega)) (.step out_no1 (.refl _)))).mono (by omega), rfl⟩

/-- the first place from s on where the pattern matches -/
noncomputable def next1 (text : Array Nat) (lim : Nat) : Nat → Nat → Option Nat
  | 0, _ => none
  | k + 1, s => if hit1 text lim s then some s else next1 text lim k (s + 1)

theorem scan1 : ∀ (k s : Nat) (first : Bool) (seen : Seen), s + k = lim + 1 → 0 < k →
    ∃ m', To (3 * k + 5) (st1 text lim s 5 s s first none [fr1 s first] 1 seen none) m' ∧
      match next1 text lim k s with
      | some t => m'.outcome = some .matched ∧ m'.start = t ∧ m'.handed = t + 1
      | none => m'.outcome = some .failed
  | 0, _, _, _, _, h0 => absurd h0 (Nat.lt_irrefl _)
  | k + 1, s, first, seen, hk, _ => by
    unfold next1
    by_cases h : hit1 text lim s = true
    · rw [if_pos h]
      obtain ⟨m', a, b⟩ := hits1 (first := first) (seen := seen) h
      exact ⟨m', a.mono (by omega), b⟩
    · rw [if_neg h]
      have h' : hit1 text lim s = false := by simpa using h
      by_cases hs : s < lim
      · obtain ⟨seen', a⟩ := misses1 (first := first) (seen := seen) h' hs
        obtain ⟨m', b, c⟩ := scan1 k (s + 1) false seen' (by omega) (by omega)
        exact ⟨m', (a.trans b).mono (by omega), c⟩
      · obtain ⟨m', a, b⟩ := ends1 (text := text) (lim := lim) (s := s) (first := first) (seen := seen) (by omega)
        have hk0 : k = 0 := by omega
        subst hk0
        exact ⟨m', a.mono (by omega), b⟩

theorem found1 (s : Nat) (hs : s ≤ lim) : ∃ m', To (3 * (lim + 1) + 5) (forSearch code1 text 0 s lim false) m' ∧
      match next1 text lim (lim + 1 - s) s with
      | some t => m'.outcome = some .matched ∧ m'.start = t ∧ m'.handed = t + 1
      | none => m'.outcome = some .failed := by
  by_cases h : s < lim
  · obtain ⟨seen, e⟩ := search1 (text := text) h
    rw [e]
    obtain ⟨m', a, b⟩ := scan1 (text := text) (lim := lim) (lim + 1 - s) s true seen (by omega) (by omega)
    exact ⟨m', a.mono (by omega), b⟩
  · have hs' : s = lim := by omega
    subst hs'
    have hn : next1 text s (s + 1 - s) s = none := by
      rw [show s + 1 - s = 1 by omega]
      unfold next1 next1
      have : hit1 text s s = false := by unfold hit1; simp
      rw [this]; rfl
    rw [hn]
    have hc : (s > s || s - s < 1) = true := by simp
    refine ⟨(forSearch code1 text 0 s s false).step, ⟨1, by omega, by rw [runFor_succ]; rfl⟩, ?_⟩
    show (if (s > s || s - s < 1) = true then M.say _ false else _ : M).step.outcome = _
    rw [if_pos hc]
    rfl
end Rx
end Mine
end PartRex1
section PartRex2
namespace Mine
open PySem PySem.Sre
namespace Rx
noncomputable def fr2 (s : Nat) : PySem.Sre.Frame := { wait := .nextStart, pc := 10, pos := s, outermost := true }
noncomputable def br2 (s pc : Nat) : PySem.Sre.Frame := { wait := .nextBranch, pc, pos := s, outermost := true }
noncomputable def st2 (text : Array Nat) (lim s pc pos handed : Nat) (answer : Option Bool) (frames : List PySem.Sre.Frame) (weight : Nat) (seen : Seen) (outcome : Option PySem.Sre.Outcome) : M :=
  { code := code2, text, lim, start := s, lastStart := lim, pc, pos, handed, outermost := true, marks := #[], frames, weight, answer, seen, outcome }

variable {text : Array Nat} {lim s : Nat} {seen : Seen}

theorem set2_yes (c : Nat) (h : c = 10) : inSet code2 c code2.size 5 true seen = .ok (true, seen.add 16) := by
  subst h; rfl
theorem set2_no (c : Nat) (h : c ≠ 10) (h' : c ≠ 13) : inSet code2 c code2.size 5 true seen = .ok (false, ((seen.add 16).add 16).add 0) := by
  have e1 : (c == 10) = false := by simpa using h
  have e2 : (c == 13) = false := by simpa using h'
  show (if (c == 10) = true then (Except.ok (true, seen.add 16) : Except String (Bool × Seen)) else (if (c == 13) = true then .ok (true, (seen.add 16).add 16) else .ok (false, ((seen.add 16).add 16).add 0))) = _
  rw [e1, e2]
  rfl

noncomputable def next2 (text : Array Nat) (lim : Nat) : Nat → Nat → Option Nat
  | 0, _ => none
  | k + 1, s => if s ≥ lim then none else if text.getD s 0 = 10 then some s else next2 text lim k (s + 1)

theorem adm2 {m : M} (hc : m.code = code2) (ht : m.text = text) (hl : m.lim = lim) (h13 : ∀ i, text.getD i 0 ≠ 13) : ∀ (k s : Nat) (seen : Seen), ∃ seen', m.admitted k s seen = .ok (next2 text lim k s, seen')
  | 0, _, seen => ⟨seen, rfl⟩
  | k + 1, s, seen => by
    unfold M.admitted next2
    rw [hc, ht, hl]
    by_cases h : s ≥ lim
    · rw [if_pos h, if_pos h]; exact ⟨_, rfl⟩
    · rw [if_neg h, if_neg h]
      by_cases h1 : text.getD s 0 = 10
      · rw [if_pos h1, set2_yes _ h1]; exact ⟨_, rfl⟩
      · rw [if_neg h1, set2_no _ h1 (h13 s)]
        exact adm2 hc ht hl h13 k (s + 1) _

theorem branch2 : (st2 text lim s 10 s s none [fr2 s] 1 seen none).step = st2 text lim s 12 s s none [br2 s 11, fr2 s] 2 (seen.add 7) none := rfl
theorem lit2_no (h : s < lim) (hc : text.getD s 0 = 10) : (st2 text lim s 12 s s none [br2 s 11, fr2 s] 2 seen none).step = st2 text lim s 12 s s (some false) [br2 s 11, fr2 s] 2 (seen.add 16) none := by
  show (if s ≥ lim then _ else match (Except.ok (text.getD s 0 == 13, seen.add 16) : Except String (Bool × Seen)) with
    | .error why => _
    | .ok (false, seen) => _
    | .ok (true, seen) => _) = _
  rw [if_neg (Nat.not_le.mpr h), hc]
  rfl
theorem alt2 : (st2 text lim s 12 s s (some false) [br2 s 11, fr2 s] 2 seen none).step = st2 text lim s 19 s s none [br2 s 18, fr2 s] 2 seen none := rfl
theorem lit2_yes (h : s < lim) (hc : text.getD s 0 = 10) : (st2 text lim s 19 s s none [br2 s 18, fr2 s] 2 seen none).step = st2 text lim s 21 (s + 1) s none [br2 s 18, fr2 s] 2 (seen.add 16) none := by
  show (if s ≥ lim then _ else match (Except.ok (text.getD s 0 == 10, seen.add 16) : Except String (Bool × Seen)) with
    | .error why => _
    | .ok (false, seen) => _
    | .ok (true, seen) => _) = _
  rw [if_neg (Nat.not_le.mpr h), hc]
  rfl
theorem jump2 : (st2 text lim s 21 (s + 1) s none [br2 s 18, fr2 s] 2 seen none).step = st2 text lim s 35 (s + 1) s none [br2 s 18, fr2 s] 2 (seen.add 15) none := rfl
theorem success2 : (st2 text lim s 35 (s + 1) s none [br2 s 18, fr2 s] 2 seen none).step = st2 text lim s 35 (s + 1) (s + 1) (some true) [br2 s 18, fr2 s] 2 (seen.add 1) none := by
  show (if (true && ((false && (s + 1) != lim) || (false && (s + 1) == s))) = true then _ else _) = _
  rw [if_neg (by simp)]
  rfl
theorem back2a : (st2 text lim s 35 (s + 1) (s + 1) (some true) [br2 s 18, fr2 s] 2 seen none).step = st2 text lim s 18 s (s + 1) (some true) [fr2 s] 1 seen none := rfl
theorem back2b : (st2 text lim s 18 s (s + 1) (some true) [fr2 s] 1 seen none).step = st2 text lim s 10 s (s + 1) (some true) [] 0 seen none := rfl
theorem out2 : (st2 text lim s 10 s (s + 1) (some true) [] 0 seen none).step = st2 text lim s 10 s (s + 1) (some true) [] 0 seen (some .matched) := rfl

theorem hits2 (h : s < lim) (hc : text.getD s 0 = 10) : ∃ m', To 9 (st2 text lim s 10 s s none [fr2 s] 1 seen none) m' ∧ m'.outcome = some .matched ∧ m'.start = s ∧ m'.handed = s + 1 :=
  ⟨_, .step branch2 (.step (lit2_no h hc) (.step alt2 (.step (lit2_yes h hc) (.step jump2 (.step success2 (.step back2a (.step back2b (.step out2 (.refl _))))))))), rfl, rfl, rfl⟩

theorem next2_spec {t : Nat} : ∀ (k s : Nat), next2 text lim k s = some t → t < lim ∧ text.getD t 0 = 10
  | 0, _, h => by cases h
  | k + 1, s, h => by
    unfold next2 at h
    split at h
    · cases h
    · split at h
      · cases h; exact ⟨by omega, by assumption⟩
      · exact next2_spec k (s + 1) h

theorem found2 (h13 : ∀ i, text.getD i 0 ≠ 13) (s : Nat) (hs : s ≤ lim) : ∃ m', To 10 (forSearch code2 text 0 s lim false) m' ∧
      match next2 text lim (lim + 1 - s) s with
      | some t => m'.outcome = some .matched ∧ m'.start = t ∧ m'.handed = t + 1
      | none => m'.outcome = some .failed := by
  by_cases h : s < lim
  · have hc : ¬ ((s > lim || lim - s < 1) = true) := by simp; omega
    have e : forSearch code2 text 0 s lim false = M.attemptFrom (st2 text lim s 10 s s none [] 0 (({} : Seen).add 14) none) s true := by
      show (if (s > lim || lim - s < 1) = true then _ else _) = _
      rw [if_neg hc]
      rfl
    rw [e]
    obtain ⟨seen', ea⟩ := adm2 (m := st2 text lim s 10 s s none [] 0 (({} : Seen).add 14) none) (text := text) (lim := lim) rfl rfl rfl h13 (lim + 1 - s) s (({} : Seen).add 14)
    have e2 : M.attemptFrom (st2 text lim s 10 s s none [] 0 (({} : Seen).add 14) none) s true =
        match (Except.ok (next2 text lim (lim + 1 - s) s, seen') : Except String (Option Nat × Seen)) with
        | .ok (some t, seen) => st2 text lim t 10 t t none [fr2 t] 1 seen none
        | .ok (none, seen) => st2 text lim s 10 s s (some false) [] 0 seen none
        | .error why => M.stick (st2 text lim s 10 s s none [] 0 (({} : Seen).add 14) none) why := by
      rw [← ea]
      rfl
    rw [e2]
    cases hn : next2 text lim (lim + 1 - s) s with
    | none => exact ⟨_, (To.step (m₁ := st2 text lim s 10 s s (some false) [] 0 seen' (some .failed)) rfl (.refl _)).mono (by omega), rfl⟩
    | some t =>
      obtain ⟨ht, hc⟩ := next2_spec _ _ hn
      obtain ⟨m', a, b⟩ := hits2 (seen := seen') ht hc
      exact ⟨m', a.mono (by omega), b⟩
  · have hs' : s = lim := by omega
    subst hs'
    have hn : next2 text s (s + 1 - s) s = none := by
      rw [show s + 1 - s = 1 by omega]
      unfold next2
      rw [if_pos (Nat.le_refl _)]
    rw [hn]
    have hc : (s > s || s - s < 1) = true := by simp
    refine ⟨(forSearch code2 text 0 s s false).step, ⟨1, by omega, by rw [runFor_succ]; rfl⟩, ?_⟩
    show (if (s > s || s - s < 1) = true then M.say _ false else _ : M).step.outcome = _
    rw [if_pos hc]
    rfl
end Rx
end Mine
end PartRex2
section PartFacts
set_option maxRecDepth 100000
namespace Mine
open PySem PySem.Calls PyProof.Rows
namespace MF

theorem plainAttrs_pat : PlainAttrs "re.Pattern" :=
  ⟨⟨"object.__getattribute__", by rw [typeLookup_type, builtinLookup_eq_fast]; kernel_rfl, by decide +kernel⟩, by rw [typeLookup_type, builtinLookup_eq_fast]; kernel_rfl⟩
theorem owner_pat : Manifest.owners.lookup (String.ofList ['n', 'r', 'e', 't', 't', 'a', 'P', '.', 'e', 'r'].reverse) = some Manifest.sig_re_Pattern := by kernel_rfl
theorem slot_pat_sub : Slot "re.Pattern" "sub" "re.Pattern.sub" :=
  .of (owner := "re.Pattern") (n := "sub") (by rw [typeLookup_type, builtinLookup_eq_fast]; kernel_rfl) (by decide +kernel) (by decide +kernel) (by decide +kernel)
    (by first | exact .inl (by decide +kernel) | exact .inr (by decide +kernel)) (by rw [isSubtype_type]; kernel_rfl)
theorem type_pat_sub : typeOf (.builtin "re.Pattern.sub") = pure (.type "method_descriptor") := by show builtinType _ = _; rw [builtinType_eq_fast]; kernel_rfl
theorem entry_pat_sub : entryFor table "re.Pattern.sub" = some Builtin.«re.Pattern.sub» := entryFor_of_tree (by kernel_rfl)
theorem args_pat_sub_3 (a b c : Value) : argsOk "re.Pattern.sub" ⟨[a, b, c], []⟩ := by
  unfold argsOk; rw [signature?_of (id := "re.Pattern.sub") (n := ['b', 'u', 's']) (o := ['n', 'r', 'e', 't', 't', 'a', 'P', '.', 'e', 'r']) (by kernel_rfl) owner_pat]; kernel_rfl
theorem owner_str : Manifest.owners.lookup (String.ofList ['r', 't', 's'].reverse) = some Manifest.sig_str := by kernel_rfl
theorem slot_str_encode : Slot "str" "encode" "str.encode" :=
  .of (owner := "str") (n := "encode") (by rw [typeLookup_type, builtinLookup_eq_fast]; kernel_rfl) (by decide +kernel) (by decide +kernel) (by decide +kernel)
    (by first | exact .inl (by decide +kernel) | exact .inr (by decide +kernel)) (by rw [isSubtype_type]; kernel_rfl)
theorem type_str_encode : typeOf (.builtin "str.encode") = pure (.type "method_descriptor") := by show builtinType _ = _; rw [builtinType_eq_fast]; kernel_rfl
theorem entry_str_encode : entryFor table "str.encode" = some Builtin.«str.encode» := entryFor_of_tree (by kernel_rfl)
theorem args_str_encode_2 (a b : Value) : argsOk "str.encode" ⟨[a, b], []⟩ := by
  unfold argsOk; rw [signature?_of (id := "str.encode") (n := ['e', 'd', 'o', 'c', 'n', 'e']) (o := ['r', 't', 's']) (by kernel_rfl) owner_str]; kernel_rfl
theorem slot_str_translate : Slot "str" "translate" "str.translate" :=
  .of (owner := "str") (n := "translate") (by rw [typeLookup_type, builtinLookup_eq_fast]; kernel_rfl) (by decide +kernel) (by decide +kernel) (by decide +kernel)
    (by first | exact .inl (by decide +kernel) | exact .inr (by decide +kernel)) (by rw [isSubtype_type]; kernel_rfl)
theorem type_str_translate : typeOf (.builtin "str.translate") = pure (.type "method_descriptor") := by show builtinType _ = _; rw [builtinType_eq_fast]; kernel_rfl
theorem entry_str_translate : entryFor table "str.translate" = some Builtin.«str.translate» := entryFor_of_tree (by kernel_rfl)
theorem args_str_translate_2 (a b : Value) : argsOk "str.translate" ⟨[a, b], []⟩ := by
  unfold argsOk; rw [signature?_of (id := "str.translate") (n := ['e', 't', 'a', 'l', 's', 'n', 'a', 'r', 't']) (o := ['r', 't', 's']) (by kernel_rfl) owner_str]; kernel_rfl
theorem owner_bytes : Manifest.owners.lookup (String.ofList ['s', 'e', 't', 'y', 'b'].reverse) = some Manifest.sig_bytes := by kernel_rfl
theorem slot_bytes_translate : Slot "bytes" "translate" "bytes.translate" :=
  .of (owner := "bytes") (n := "translate") (by rw [typeLookup_type, builtinLookup_eq_fast]; kernel_rfl) (by decide +kernel) (by decide +kernel) (by decide +kernel)
    (by first | exact .inl (by decide +kernel) | exact .inr (by decide +kernel)) (by rw [isSubtype_type]; kernel_rfl)
theorem type_bytes_translate : typeOf (.builtin "bytes.translate") = pure (.type "method_descriptor") := by show builtinType _ = _; rw [builtinType_eq_fast]; kernel_rfl
theorem entry_bytes_translate : entryFor table "bytes.translate" = some Builtin.«bytes.translate» := entryFor_of_tree (by kernel_rfl)
theorem args_bytes_translate_2 (a b : Value) : argsOk "bytes.translate" ⟨[a, b], []⟩ := by
  unfold argsOk; rw [signature?_of (id := "bytes.translate") (n := ['e', 't', 'a', 'l', 's', 'n', 'a', 'r', 't']) (o := ['s', 'e', 't', 'y', 'b']) (by kernel_rfl) owner_bytes]; kernel_rfl
end MF
end Mine
end PartFacts
section PartSub0
set_option maxRecDepth 100000
namespace Mine
open PySem PySem.Calls PyProof.Rows PySem.Builtin PySem.Builtin.Re
namespace MF
theorem plain_subloop : plainId "re.Pattern.sub.loop" = true := by decide +kernel
theorem entry_subloop : entryFor table "re.Pattern.sub.loop" = some Builtin.«re.Pattern.sub.loop» := entryFor_of_tree (by kernel_rfl)
end MF
section
variable {M : Model} {A : Around} {E : Value → Shared → Prop} {s : Shared}

theorem drive : ∀ (turns k : Nat) (m m' : Sre.M) (Q : Sre.M → Shared → Prop), Sre.M.runFor k m = m' → m'.outcome.isSome = true → k ≤ 4 * turns → 0 < turns → Q m' s → wpAny M A (reDrive turns m) Q E s
  | 0, _, _, _, _, _, _, _, h0, _ => absurd h0 (Nat.lt_irrefl _)
  | turns + 1, k, m, m', Q, e, hs, hk, _, hQ => by
    show wpAny M A (if (m.runFor 4).outcome.isSome = true then pure (m.runFor 4) else do rule "sre.turn"; reDrive turns (m.runFor 4)) Q E s
    by_cases h4 : (m.runFor 4).outcome.isSome = true
    · rw [if_pos h4]
      have : m.runFor 4 = m' := by
        by_cases hk4 : k ≤ 4
        · obtain ⟨d, hd⟩ : ∃ d, 4 = k + d := ⟨4 - k, by omega⟩
          rw [hd, Rx.runFor_add, e, Rx.runFor_some hs]
        · obtain ⟨d, rfl⟩ : ∃ d, k = 4 + d := ⟨k - 4, by omega⟩
          rw [Rx.runFor_add, Rx.runFor_some h4] at e
          exact e
      rw [this]; exact wpAny_pure hQ
    · rw [if_neg h4]
      have hk4 : 4 < k := by
        rcases Nat.lt_or_ge 4 k with h | h
        · exact h
        · exfalso
          obtain ⟨d, hd⟩ : ∃ d, 4 = k + d := ⟨4 - k, by omega⟩
          apply h4
          rw [hd, Rx.runFor_add, e, Rx.runFor_some hs]; exact hs
      obtain ⟨d, rfl⟩ : ∃ d, k = 4 + d := ⟨k - 4, by omega⟩
      rw [Rx.runFor_add] at e
      exact wpAny_bind (wpAny_rule (drive turns d (m.runFor 4) m' Q e hs (by omega) (by omega) hQ))

theorem forIn_quiet {α : Type} {f : α → PUnit → Sem (ForInStep PUnit)} : ∀ (l : List α) (Q : PUnit → Shared → Prop),
    (∀ i (Q : ForInStep PUnit → Shared → Prop), Q (.yield ⟨⟩) s → wpAny M A (f i ⟨⟩) Q E s) → Q ⟨⟩ s → wpAny M A (forIn l PUnit.unit f) Q E s
  | [], Q, _, h => by rw [List.forIn_nil]; exact wpAny_pure h
  | a :: r, Q, hf, h => by
    rw [List.forIn_cons]
    exact wpAny_bind (hf a _ (forIn_quiet r Q hf h))

theorem runToEnd {n : Nat} {m m' : Sre.M} {Q : Option Sre.M → Shared → Prop} (h : Rx.To n m m') (hn : n ≤ 2 ^ 60)
    (hQ : (m'.outcome = some .matched ∧ Q (some m') s) ∨ (m'.outcome = some .failed ∧ Q none s)) : wpAny M A (reRunToEnd m) Q E s := by
  obtain ⟨k, hk, e⟩ := h
  have hsome : m'.outcome.isSome = true := by rcases hQ with ⟨e, _⟩ | ⟨e, _⟩ <;> rw [e] <;> rfl
  unfold reRunToEnd
  refine wpAny_bind (drive (2 ^ 64) k m m' _ e hsome (by omega) (by decide) ?_)
  refine wpAny_bind (forIn_quiet _ _ (fun i Q' h' => ?_) ?_)
  · by_cases hs : m'.seen.has i = true
    · simp only [hs, if_true]
      exact wpAny_bind (wpAny_rule (wpAny_pure h'))
    · simp only [hs, if_false, Bool.false_eq_true]
      exact wpAny_pure h'
  · rcases hQ with ⟨e, h⟩ | ⟨e, h⟩
    · rw [e]; exact wpAny_pure h
    · rw [e]; exact wpAny_pure h
end
end Mine
end PartSub0
section PartSub1
set_option maxRecDepth 100000
namespace Mine
open PySem PySem.Calls PyProof.Rows PySem.Builtin PySem.Builtin.Re

/-- what the machine finds: the place of the next match, one sign long -/
noncomputable def Finds (code text : Array Nat) (next : Nat → Option Nat) : Prop :=
  ∀ s, s ≤ text.size → ∃ n m', n ≤ 2 ^ 60 ∧ Rx.To n (Sre.forSearch code text 0 s text.size false) m' ∧
    match next s with
    | some t => s ≤ t ∧ t < text.size ∧ m'.outcome = some .matched ∧ m'.start = t ∧ m'.handed = t + 1
    | none => m'.outcome = some .failed

structure PatAt (h : Heap) (P C : Addr) (code : Array Nat) : Prop where
  pat : ∃ a b c d, h.get? P = some ⟨.type "re.Pattern", none, .fields #[a, b, .int 0 0, c, d, .ref C, .int 0 0], #[]⟩
  code : ∃ vs n, h.get? C = some ⟨.type "tuple", none, .seq vs n, #[]⟩ ∧ (vs.map reRawOf).map (·.toNat) = code

theorem PatAt.keeps {h h' : Heap} {P C : Addr} {code : Array Nat} (x : PatAt h P C code) (k : ∀ b o, h.get? b = some o → b = P ∨ b = C → h'.get? b = some o) : PatAt h' P C code := by
  obtain ⟨⟨a, b, c, d, e⟩, vs, n, e1, e2⟩ := x
  exact ⟨⟨a, b, c, d, k _ _ e (.inl rfl)⟩, vs, n, k _ _ e1 (.inr rfl), e2⟩

section
variable {prog : Program} {w : World} {A : Around} {E : Value → Shared → Prop} {s : Shared}

theorem wholeTarget {M : Model} {P C : Addr} {code : Array Nat} {x : Str} {tx : Tok} {Q : ReTarget → Shared → Prop} (hp : PatAt s.heap P C code)
    (h : Q { pattern := .ref P, string := .str x tx, code, text := x.cps, kind := 0, groups := 0, pos := 0, lim := x.cps.size } s) :
    wpAny M A (reWholeTarget (.ref P) (.str x tx)) Q E s := by
  obtain ⟨⟨a, b, c, d, e⟩, vs, n, e1, e2⟩ := hp
  unfold reWholeTarget
  refine wpAny_bind ?_
  show wpAny M A (load P >>= fun o => match o.data with | .fields vs => pure vs | _ => unsupported "internal:no-fields") _ E s
  refine wpAny_bind (wpAny_load e (wpAny_pure ?_))
  refine wpAny_bind ?_
  show wpAny M A (reTextOf (.str x tx)) _ E s
  unfold reTextOf
  refine wpAny_bind (wpAny_pure ?_)
  refine wpAny_pure ?_
  show wpAny M A (do
    let code := (← reRawItems (.ref C)).map (·.toNat)
    pure _) Q E s
  refine wpAny_bind ?_
  show wpAny M A (do let r ← (do let o ← load C; match o.data with | .seq xs _ => pure (some xs) | _ => pure none); pure ((r.getD #[]).map reRawOf)) _ E s
  refine wpAny_bind (wpAny_bind (wpAny_load e1 (wpAny_pure (wpAny_pure (wpAny_pure ?_)))))
  show Q { pattern := .ref P, string := .str x tx, code := (vs.map reRawOf).map (·.toNat), text := x.cps, kind := 0, groups := 0, pos := 0, lim := x.cps.size } s
  rw [e2]
  exact h

/-- the text with each place that is found put otherwise -/
noncomputable def subOut (next : Nat → Option Nat) (text : Array Nat) (r : List Nat) : Nat → Nat → List Nat
  | 0, _ => []
  | k + 1, s => match next s with
    | some t => (text.extract s t).toList ++ r ++ subOut next text r k (t + 1)
    | none => (text.extract s text.size).toList
end
end Mine
end PartSub1
section PartSub2
set_option maxRecDepth 100000
namespace Mine
open PySem PySem.Calls PyProof.Rows PySem.Builtin PySem.Builtin.Re

noncomputable def weightOf (items : List (Str × Tok)) : Nat := (items.map fun i => i.1.length).sum + items.length
noncomputable def flatOf (items : List (Str × Tok)) : List Nat := items.flatMap fun i => i.1.cps.toList
theorem weight_snoc (items : List (Str × Tok)) (i : Str × Tok) : weightOf (items ++ [i]) = weightOf items + i.1.length + 1 := by
  unfold weightOf; simp; omega
theorem flat_snoc (items : List (Str × Tok)) (i : Str × Tok) : flatOf (items ++ [i]) = flatOf items ++ i.1.cps.toList := by
  unfold flatOf; simp

theorem joined_flat : ∀ l : List Str, (PySem.Str.join ⟨#[]⟩ l).cps.toList = l.flatMap fun x => x.cps.toList
  | [] => rfl
  | [x] => by simp [PySem.Str.join]
  | x :: y :: r => by
    have ih := joined_flat (y :: r)
    have e : (PySem.Str.join ⟨#[]⟩ (x :: y :: r)).cps = x.cps ++ #[] ++ (PySem.Str.join ⟨#[]⟩ (y :: r)).cps := rfl
    rw [e, List.flatMap_cons, ← ih]
    simp
theorem join_flat (l : List Str) : (PySem.Txt.join ⟨#[]⟩ l).cps.toList = l.flatMap fun x => x.cps.toList := by
  rw [show PySem.Txt.join ⟨#[]⟩ l = PySem.Str.join ⟨#[]⟩ l from PySem.StrLaws.glued_eq_join _ _]
  exact joined_flat l
theorem strValues_snoc (items : List (Str × Tok)) (i : Str × Tok) : (strValues items).toArray.push (.str i.1 i.2) = (strValues (items ++ [i])).toArray := by
  simp [strValues]
theorem strValues_len (items : List (Str × Tok)) : (strValues items).toArray.size = items.length := by simp [strValues]

section
variable {prog : Program} {w : World} {A : Around} {E : Value → Shared → Prop}

/-- one text more on the list at l -/
theorem push_text {M : Model} {h : Heap} {l : Addr} {items : List (Str × Tok)} {n tk : Nat} {s : Shared} {y : Str} {ty : Tok} {Q : Unit → Shared → Prop} (hl : IsL h l (strValues items).toArray n) (hw : weightOf items ≤ 1048576)
    (hQ : ∀ h' n', IsL h' l (strValues (items ++ [(y, ty)])).toArray n' → (∀ b o, b ≠ l → h.get? b = some o → h'.get? b = some o) → Q () { s with heap := h', toks := tk }) :
    wpAny M A (updateSeq l (·.push (.str y ty))) Q E { s with heap := h, toks := tk } := by
  have hsz : (strValues items).toArray.size ≤ sizeLine := by rw [strValues_len, sizeLine_eq]; unfold weightOf at hw; omega
  refine wpAny_updateSeq (s := { s with heap := h, toks := tk }) hl rfl (hz := hsz) (_hz' := by show ((strValues items).toArray.push _).size ≤ _; rw [Array.size_push]; omega) ?_
  have e := hl.update (·.push (.str y ty))
  have e2 := strValues_snoc items (y, ty)
  dsimp only at e2
  rw [show ((strValues items).toArray.push (Value.str y ty)) = _ from e2] at e
  exact hQ _ _ e fun b o hb e => (Heap.get?_update_other h _ (Ne.symm hb)).trans e

theorem slice_text {M : Model} {text : Array Nat} {b e : Nat} {s : Shared} {Q : Value → Shared → Prop} (hsz : text.size ≤ 100000) (hQ : Q (.str ⟨text.extract b e⟩ s.toks) { s with toks := s.toks + 1 }) :
    wpAny M A (reSlice text 0 b e) Q E s := by
  show wpAny M A (mkStr ⟨text.extract b e⟩) Q E s
  refine wpAny_mkStr hQ ?_
  show (text.extract b e).size ≤ sizeLine
  rw [Array.size_extract, sizeLine_eq]; omega

theorem sub_tail {x : Str} {l : Addr} {items : List (Str × Tok)} {n : Int} {ne tk : Nat} {h : Heap} {s : Shared} {Q : Fin → Shared → Prop} (hl : IsL h l (strValues items).toArray ne) (hw : weightOf items ≤ 1048576) (hx : x.cps.size ≤ 100000)
    (hQ : ∀ tk' t', Q (.done (.ret (.str ⟨(flatOf items).toArray⟩ t'))) { s with heap := h, toks := tk' }) :
    wpAny (model prog w) A (do
      let joiner ← reSlice x.cps 0 0 0
      let o ← seqItems? (Value.ref l)
      if (o.getD #[]).isEmpty = true then do
          let text ← pure joiner
          if false = true then do
              let v ← holding [text] do
                    let i ← mkInt n
                    newTuple [text, i]
              ret v
            else ret text
        else do
          let text ← call (Value.builtin (if (0 == 0) = true then "str.join" else "bytes.join")) [joiner, Value.ref l]
          if false = true then do
              let v ← holding [text] do
                    let i ← mkInt n
                    newTuple [text, i]
              ret v
            else ret text) Q E { s with heap := h, toks := tk } := by
  have e0 : x.cps.extract 0 0 = #[] := by simp
  refine wpAny_bind (slice_text hx ?_)
  refine wpAny_bind ?_
  show wpAny _ _ (do let o ← load l; match o.data with | .seq xs _ => pure (some xs) | _ => pure none) _ _ _
  refine wpAny_bind (wpAny_load (s := { s with heap := h, toks := tk + 1 }) hl (wpAny_pure ?_))
  dsimp only [Option.getD_some]
  cases items with
  | nil =>
    refine wpAny_bind (wpAny_pure (wpAny_pure ?_))
    have := hQ (tk + 1) tk
    rw [e0]
    exact this
  | cons i r =>
    refine wpAny_ite ?_
    rw [if_neg (by simp [strValues])]
    rw [e0]
    refine wpAny_bind ?_
    show wpAny _ _ (call (Value.builtin "str.join") [Value.str ⟨#[]⟩ tk, Value.ref l]) _ _ _
    have hwl : ((i :: r).map (·.1)).length = (i :: r).length := by simp
    refine SC.join (texts := (i :: r).map (·.1)) hl.isList rfl (joinOk_of_weight ?_ (by decide)) fun t' k => ?_
    · unfold weightOf at hw
      rw [List.map_map, hwl]
      exact hw
    · refine wpAny_pure ?_
      have e : PySem.Txt.join ⟨#[]⟩ ((i :: r).map (·.1)) = ⟨(flatOf (i :: r)).toArray⟩ := by
        apply Str.ext'
        apply Array.toList_inj.mp
        rw [join_flat]
        unfold flatOf
        simp [List.flatMap_map]
      rw [e]
      exact hQ _ _
theorem sub_loop {P C l : Addr} {code : Array Nat} {x r : Str} {tx tr : Tok} {next : Nat → Option Nat} {R : Result → Shared → Prop} {s : Shared} {hb : Heap} {out : List Nat}
    (hf : Finds code x.cps next) (hx : x.cps.size ≤ 100000) (hr : r.length = 2) (hPl : P ≠ l) (hCl : C ≠ l) :
    ∀ (k st n : Nat) (items : List (Str × Tok)) (h : Heap) (tk ne : Nat), x.cps.size + 1 - st ≤ k → st ≤ x.cps.size → weightOf items + 5 * (x.cps.size - st) ≤ 600000 →
      PatAt h P C code → IsL h l (strValues items).toArray ne → (∀ b o, b ≠ l → hb.get? b = some o → h.get? b = some o) → out = flatOf items ++ subOut next x.cps r.cps.toList k st →
      (∀ h' tk' t', (∀ b o, b ≠ l → hb.get? b = some o → h'.get? b = some o) → R (.ok (.ret (.str ⟨out.toArray⟩ t'))) { s with heap := h', toks := tk' }) →
      codeAny (model prog w) A (.builtin "re.Pattern.sub.loop" ⟨[.ref P, .str x tx, .str r tr, rawInt 0, rawInt 0, rawInt n, rawInt st, rawInt st, .bool false, .ref l, .bool false], []⟩) R { s with heap := h, toks := tk }
  | 0, st, _, _, _, _, _, hk, hst, _, _, _, _, _, _ => absurd hk (by omega)
  | k + 1, st, n, items, h, tk, ne, hk, hst, hw, hp, hl, hkeep, hout, hR => by
    refine codeAny_builtin MF.entry_subloop ?_
    rw [Around.under_plainId MF.plain_subloop _]
    obtain ⟨nn, m', hnn, hto, hm⟩ := hf st hst
    unfold Builtin.«re.Pattern.sub.loop»
    refine wpAny_bind (wholeTarget (s := { s with heap := h, toks := tk }) hp ?_)
    refine wpAny_bind (wpAny_pure ?_)
    refine wpAny_bind ?_
    show wpAny _ _ (reRunToEnd (Sre.forSearch code x.cps 0 st x.cps.size false)) _ _ _
    unfold subOut at hout
    cases hn : next st with
    | none =>
      rw [hn] at hm hout
      refine runToEnd hto hnn (.inr ⟨hm, ?_⟩)
      dsimp only
      have est : ((st : Int)).toNat = st := Int.toNat_natCast st
      rw [est]
      refine wpAny_ite ?_
      by_cases hlt : st < x.cps.size
      · rw [if_pos hlt]
        refine wpAny_bind (slice_text hx ?_)
        have hs1 : (x.cps.extract st x.cps.size).size = x.cps.size - st := by rw [Array.size_extract]; omega
        refine wpAny_bind (push_text hl (by omega) fun h' n' hl' hk' => ?_)
        refine sub_tail hl' ?_ hx fun tk' t' => ?_
        · rw [weight_snoc]; show weightOf items + (x.cps.extract st x.cps.size).size + 1 ≤ _; omega
        · have := hR h' tk' t' fun b o hb e => hk' b o hb (hkeep b o hb e)
          rw [flat_snoc]
          rw [hout] at this
          exact this
      · rw [if_neg hlt]
        refine sub_tail hl (by omega) hx fun tk' t' => ?_
        have := hR h tk' t' hkeep
        rw [hout, show (x.cps.extract st x.cps.size) = #[] by rw [Array.extract_eq_empty_iff]; omega] at this
        simpa using this
    | some t =>
      rw [hn] at hm hout
      obtain ⟨h1, h2, h3, h4, h5⟩ := hm
      refine runToEnd hto hnn (.inl ⟨h3, ?_⟩)
      dsimp only
      have est : ((st : Int)).toNat = st := Int.toNat_natCast st
      rw [est, h4, h5]
      have emust : ((t + 1) == t) = false := by simp
      rw [emust]
      have go : ∀ (items' : List (Str × Tok)) (h' : Heap) (ne' tk' : Nat), IsL h' l (strValues items').toArray ne' → (∀ b o, b ≠ l → h.get? b = some o → h'.get? b = some o) → flatOf items' = flatOf items ++ (x.cps.extract st t).toList →
          weightOf items' ≤ weightOf items + (t - st) + 1 →
          wpAny (model prog w) A.in1 (if (0 == 0) = true then do
            let item ← pure (Value.str r tr)
            if (item != Value.none) = true then do
              updateSeq l fun x => x.push item
              again (Code.builtin "re.Pattern.sub.loop" { pos := [Value.ref P, Value.str x tx, Value.str r tr, rawInt 0, rawInt 0, rawInt (↑n + 1), rawInt ↑(t + 1), rawInt ↑(t + 1), Value.bool false, Value.ref l, Value.bool false] })
            else again (Code.builtin "re.Pattern.sub.loop" { pos := [Value.ref P, Value.str x tx, Value.str r tr, rawInt 0, rawInt 0, rawInt (↑n + 1), rawInt ↑(t + 1), rawInt ↑(t + 1), Value.bool false, Value.ref l, Value.bool false] })
          else do
            let found ← reNewMatch (Value.ref P) (Value.str x tx) 0 0 x.cps.size m'
            let item ← holding [found] (if (0 == 1) = true then call (Value.str r tr) [found] else do
                  let f ← reFound found
                  reExpand (Value.str r tr) f)
            if (item != Value.none) = true then do
              updateSeq l fun x => x.push item
              again (Code.builtin "re.Pattern.sub.loop" { pos := [Value.ref P, Value.str x tx, Value.str r tr, rawInt 0, rawInt 0, rawInt (↑n + 1), rawInt ↑(t + 1), rawInt ↑(t + 1), Value.bool false, Value.ref l, Value.bool false] })
            else again (Code.builtin "re.Pattern.sub.loop" { pos := [Value.ref P, Value.str x tx, Value.str r tr, rawInt 0, rawInt 0, rawInt (↑n + 1), rawInt ↑(t + 1), rawInt ↑(t + 1), Value.bool false, Value.ref l, Value.bool false] }))
          (fun fin s' => match fin with | Fin.done f => R (Except.ok f) s' | Fin.again c' => c'.quiet = true ∧ codeAny (model prog w) A c' R s') (fun e s' => R (Except.error e) s')
          { s with heap := h', toks := tk' } := by
        intro items' h' ne' tk' hl' hk' hflat hwt
        refine wpAny_ite ?_
        rw [if_pos (by rfl)]
        refine wpAny_bind (wpAny_pure ?_)
        refine wpAny_ite ?_
        rw [if_pos (by rfl)]
        refine wpAny_bind (push_text hl' (by omega) fun h'' n'' hl'' hk'' => ?_)
        refine wpAny_pure ⟨plainId_quiet MF.plain_subloop _, ?_⟩
        have e1 : ((n : Int) + 1) = ((n + 1 : Nat) : Int) := by omega
        rw [e1]
        refine sub_loop hf hx hr hPl hCl k (t + 1) (n + 1) (items' ++ [(r, tr)]) h'' tk' n'' (by omega) (by omega) ?_ ?_ hl'' (fun b o hb e => hk'' b o hb (hk' b o hb (hkeep b o hb e))) ?_ hR
        · rw [weight_snoc]; show weightOf items' + r.length + 1 + _ ≤ _; omega
        · exact hp.keeps fun b o e hb => by
            have hbl : b ≠ l := by rcases hb with rfl | rfl <;> assumption
            exact hk'' b o hbl (hk' b o hbl e)
        · rw [hout, flat_snoc, hflat]
          simp [List.append_assoc]
      refine wpAny_ite ?_
      by_cases hlt : st < t
      · rw [if_pos hlt]
        refine wpAny_bind (slice_text hx ?_)
        refine wpAny_bind (push_text hl (by omega) fun h' n' hl' hk' => ?_)
        refine go _ h' n' _ hl' hk' (by rw [flat_snoc]) ?_
        rw [weight_snoc]
        show weightOf items + (x.cps.extract st t).size + 1 ≤ _
        rw [Array.size_extract]; omega
      · rw [if_neg hlt]
        refine go items h ne tk hl (fun _ _ _ e => e) ?_ (by omega)
        rw [show (x.cps.extract st t) = #[] by rw [Array.extract_eq_empty_iff]; omega]
        simp
end
end Mine
end PartSub2
section PartSub3
set_option maxRecDepth 100000
namespace Mine
open PySem PySem.Calls PyProof.Rows PySem.Builtin PySem.Builtin.Re
namespace MF
theorem str_no_call : typeLookup (.type "str") "__call__" = pure none := by rw [typeLookup_type, builtinLookup_eq_fast]; kernel_rfl
theorem named_sub (a b : Value) : reNamed "re.Pattern.sub" "sub" ["repl", "string", "count"] 2 [a, b] [] = pure [some a, some b, none] := by kernel_rfl
end MF
theorem meets_sub {P C : Addr} {code : Array Nat} {x r : Str} {tx tr : Tok} {next : Nat → Option Nat} (hf : Finds code x.cps next) (hx : x.cps.size ≤ 100000) (hr : r.length = 2) (h92 : r.cps.contains 92 = false) :
    Meets (Builtin.«re.Pattern.sub» ⟨[.ref P, .str r tr, .str x tx], []⟩) (fun _ R s => PatAt s.heap P C code ∧
      ∀ h' tk' t', (∀ b o, s.heap.get? b = some o → h'.get? b = some o) → R (.ok (.ret (.str ⟨(subOut next x.cps r.cps.toList (x.cps.size + 1) 0).toArray⟩ t'))) { s with heap := h', toks := tk' }) := by
  intro prog w A R s hS
  obtain ⟨hp, h⟩ := hS
  show wpAny _ _ (reSubstitute "re.Pattern.sub" "sub" false _) _ _ _
  unfold reSubstitute
  dsimp only
  rw [MF.named_sub]
  refine wpAny_bind (wpAny_pure ?_)
  dsimp only
  refine wpAny_bind (wpAny_pure ?_)
  refine wpAny_bind (wpAny_specialOf (typeIs_str _ _ _) MF.str_no_call ?_)
  dsimp only [Option.isSome_none]
  refine wpAny_ite ?_
  rw [if_neg (by decide)]
  refine wpAny_bind (wpAny_pure ?_)
  dsimp only
  refine wpAny_bind (wpAny_pure ?_)
  rw [h92]
  refine wpAny_ite ?_
  rw [if_neg (by decide)]
  refine wpAny_ite ?_
  rw [if_pos (by decide)]
  refine wpAny_bind (wpAny_pure ?_)
  dsimp only
  refine wpAny_bind (wpAny_holding (wholeTarget hp ?_))
  refine wpAny_ite ?_
  rw [if_neg (by decide)]
  refine wpAny_bind (wpAny_newList ?_ (by rw [sizeLine_eq]; decide))
  refine wpAny_pure ⟨plainId_quiet MF.plain_subloop _, ?_⟩
  obtain ⟨⟨a, b, c, d, e⟩, vs, n, e1, e2⟩ := id hp
  have hP : P ≠ s.heap.objs.size := Nat.ne_of_lt (Heap.lt_size e)
  have hC : C ≠ s.heap.objs.size := Nat.ne_of_lt (Heap.lt_size e1)
  have kp : ∀ b o, s.heap.get? b = some o → (s.heap.push { cls := .type "list", data := .seq ([] : List Value).toArray }).get? b = some o := fun b o e => Heap.get?_push_of_some _ e
  refine sub_loop (s := s) (hb := s.heap) hf hx hr hP hC (x.cps.size + 1) 0 0 [] _ s.toks 0 (by omega) (by omega) ?_ (hp.keeps fun b o e _ => kp b o e) ?_ (fun b o _ e => kp b o e) rfl fun h' tk' t' hk => ?_
  · show weightOf [] + 5 * (x.cps.size - 0) ≤ _; unfold weightOf; simp; omega
  · exact IsL.new _ _
  · exact h h' tk' t' fun b o e => hk b o (Nat.ne_of_lt (Heap.lt_size e)) e

section
variable {prog : Program} {w : World} {A : Around} {E : Value → Shared → Prop} {s : Shared}
theorem call_sub {P C : Addr} {code : Array Nat} {x r : Str} {tx tr : Tok} {next : Nat → Option Nat} {Q : Value → Shared → Prop} (hf : Finds code x.cps next) (hx : x.cps.size ≤ 100000) (hr : r.length = 2) (h92 : r.cps.contains 92 = false)
    (hp : PatAt s.heap P C code) (h : ∀ h' tk' t', (∀ b o, s.heap.get? b = some o → h'.get? b = some o) → Q (.str ⟨(subOut next x.cps r.cps.toList (x.cps.size + 1) 0).toArray⟩ t') { s with heap := h', toks := tk' }) :
    wpAny (model prog w) A (call (.builtin "re.Pattern.sub") [.ref P, .str r tr, .str x tx]) Q E s := by
  obtain ⟨a, b, c, d, e⟩ := hp.pat
  exact call_meets MF.slot_pat_sub ⟨_, e, rfl⟩ MF.entry_pat_sub (MF.args_pat_sub_3 _ _ _) (meets_sub hf hx hr h92) ⟨hp, h⟩
theorem method_sub {M : Model} {P C : Addr} {code : Array Nat} {pl : Sem Bool} {Q : Value × List Value → Shared → Prop} (hp : PatAt s.heap P C code) (h : Q (.builtin "re.Pattern.sub", [.ref P]) s) : wpAny M A (getMethod (.ref P) "sub" pl) Q E s := by
  obtain ⟨a, b, c, d, e⟩ := hp.pat
  exact getMethod_builtin ⟨_, e, rfl⟩ MF.plainAttrs_pat MF.slot_pat_sub MF.type_pat_sub (fun a ha => by cases ha; exact ⟨_, e, rfl⟩) h
end
end Mine
end PartSub3
section PartQSpec
namespace Mine
open PySem

/-- each feed as return and feed -/
noncomputable def crlf : List Nat → List Nat
  | [] => []
  | c :: r => if c = 10 then 13 :: 10 :: crlf r else c :: crlf r
/-- a dot more ahead of each line that begins with a dot -/
noncomputable def dots : Bool → List Nat → List Nat
  | _, [] => []
  | b, c :: r => if b && c == 46 then 46 :: 46 :: dots false r else c :: dots (c == 10) r

section
variable {next : Nat → Option Nat} {text : Array Nat} {r : List Nat}
theorem subOut_end {k s : Nat} (hs : s = text.size) (hn : next s = none) : subOut next text r (k + 1) s = [] := by
  unfold subOut
  rw [hn]
  simp [hs]
theorem subOut_hit {k s : Nat} (hn : next s = some s) : subOut next text r (k + 1) s = r ++ subOut next text r k (s + 1) := by
  conv => lhs; unfold subOut
  rw [hn]
  simp
theorem extract_cons {s t : Nat} (hs : s < t) (ht : t ≤ text.size) : (text.extract s t).toList = text.getD s 0 :: (text.extract (s + 1) t).toList := by
  have h1 : s < text.size := by omega
  rw [Array.toList_extract, Array.toList_extract]
  rw [List.extract_eq_take_drop, List.extract_eq_take_drop]
  have e : text.toList.drop s = text.getD s 0 :: text.toList.drop (s + 1) := by
    rw [List.drop_eq_getElem_cons (by simpa using h1)]
    simp [Array.getD, h1]
  rw [e, show t - s = (t - (s + 1)) + 1 by omega, List.take_succ_cons]
theorem subOut_miss {k s : Nat} (hs : s < text.size) (hn : next s = next (s + 1)) (ht : ∀ t, next s = some t → s < t ∧ t < text.size) :
    subOut next text r (k + 1) s = text.getD s 0 :: subOut next text r (k + 1) (s + 1) := by
  unfold subOut
  rw [← hn]
  cases h : next s with
  | none =>
    dsimp only
    exact extract_cons hs (Nat.le_refl _)
  | some t =>
    dsimp only
    obtain ⟨h1, h2⟩ := ht t h
    rw [extract_cons h1 (by omega)]
    rfl
end

namespace Rx
variable {text : Array Nat} {lim : Nat}
theorem next2_fuel : ∀ (k k' s : Nat), lim + 1 - s ≤ k → lim + 1 - s ≤ k' → next2 text lim k s = next2 text lim k' s
  | 0, 0, _, _, _ => rfl
  | 0, k' + 1, s, h, _ => by
    unfold next2; rw [if_pos (by omega)]
  | k + 1, 0, s, _, h => by
    conv => lhs; unfold next2
    rw [if_pos (by omega)]; rfl
  | k + 1, k' + 1, s, h, h' => by
    unfold next2
    by_cases h1 : s ≥ lim
    · rw [if_pos h1, if_pos h1]
    · rw [if_neg h1, if_neg h1]
      by_cases h2 : text.getD s 0 = 10
      · rw [if_pos h2, if_pos h2]
      · rw [if_neg h2, if_neg h2]; exact next2_fuel k k' (s + 1) (by omega) (by omega)
theorem next2_ge {t : Nat} : ∀ (k s : Nat), next2 text lim k s = some t → s ≤ t ∧ t < lim
  | 0, _, h => by cases h
  | k + 1, s, h => by
    unfold next2 at h
    split at h
    · cases h
    · split at h
      · cases h; omega
      · have := next2_ge k (s + 1) h; omega
theorem next1_fuel : ∀ (k k' s : Nat), lim + 1 - s ≤ k → lim + 1 - s ≤ k' → next1 text lim k s = next1 text lim k' s
  | 0, 0, _, _, _ => rfl
  | 0, k' + 1, s, h, _ => by
    unfold next1
    have : hit1 text lim s = false := by unfold hit1; simp; intros; omega
    rw [this]
    exact next1_fuel 0 k' (s + 1) (by omega) (by omega)
  | k + 1, 0, s, _, h => by
    conv => lhs; unfold next1
    have : hit1 text lim s = false := by unfold hit1; simp; intros; omega
    rw [this]
    exact next1_fuel k 0 (s + 1) (by omega) (by omega)
  | k + 1, k' + 1, s, h, h' => by
    unfold next1
    by_cases h1 : hit1 text lim s = true
    · rw [if_pos h1, if_pos h1]
    · rw [if_neg h1, if_neg h1]; exact next1_fuel k k' (s + 1) (by omega) (by omega)
theorem next1_ge {t : Nat} : ∀ (k s : Nat), next1 text lim k s = some t → s ≤ t ∧ t < lim
  | 0, _, h => by cases h
  | k + 1, s, h => by
    unfold next1 at h
    split at h
    · rename_i h1
      cases h
      unfold hit1 at h1
      simp only [Bool.and_eq_true, decide_eq_true_eq] at h1
      omega
    · have := next1_ge k (s + 1) h; omega
noncomputable def find1 (text : Array Nat) (s : Nat) : Option Nat := next1 text text.size (text.size + 1 - s) s
noncomputable def find2 (text : Array Nat) (s : Nat) : Option Nat := next2 text text.size (text.size + 1 - s) s
end Rx
open Rx
theorem finds1 (text : Array Nat) (hsz : text.size ≤ 100000) : Finds code1 text (find1 text) := fun s hs => by
  obtain ⟨m', a, b⟩ := found1 (text := text) (lim := text.size) s hs
  refine ⟨_, m', ?_, a, ?_⟩
  · have : (2 : Nat) ^ 60 = 1152921504606846976 := by decide
    omega
  · unfold find1
    revert b
    cases h : next1 text text.size (text.size + 1 - s) s with
    | none => exact id
    | some t => intro b; have := next1_ge _ _ h; exact ⟨this.1, this.2, b⟩
theorem finds2 (text : Array Nat) (h13 : ∀ i, text.getD i 0 ≠ 13) : Finds code2 text (find2 text) := fun s hs => by
  obtain ⟨m', a, b⟩ := found2 (text := text) (lim := text.size) h13 s hs
  refine ⟨_, m', by decide, a, ?_⟩
  unfold find2
  revert b
  cases h : next2 text text.size (text.size + 1 - s) s with
  | none => exact id
  | some t => intro b; have := next2_ge _ _ h; exact ⟨this.1, this.2, b⟩

theorem drop_cons' {text : Array Nat} {s : Nat} (h1 : s < text.size) : text.toList.drop s = text.getD s 0 :: text.toList.drop (s + 1) := by
  rw [List.drop_eq_getElem_cons (by simpa using h1)]
  simp [Array.getD, h1]

theorem find2_hit {text : Array Nat} {s : Nat} (h : s < text.size) (hc : text.getD s 0 = 10) : find2 text s = some s := by
  unfold find2
  rw [show text.size + 1 - s = (text.size - s) + 1 by omega]
  unfold next2
  rw [if_neg (by omega), if_pos hc]
theorem find2_miss {text : Array Nat} {s : Nat} (h : s < text.size) (hc : text.getD s 0 ≠ 10) : find2 text s = find2 text (s + 1) := by
  unfold find2
  rw [show text.size + 1 - s = (text.size - s) + 1 by omega]
  conv => lhs; unfold next2
  rw [if_neg (by omega), if_neg hc]
  exact next2_fuel _ _ _ (by omega) (by omega)
theorem find2_end {text : Array Nat} {s : Nat} (h : s = text.size) : find2 text s = none := by
  unfold find2
  rw [show text.size + 1 - s = 0 + 1 by omega]
  unfold next2
  rw [if_pos (by omega)]
theorem find2_gt {text : Array Nat} {s t : Nat} (hc : text.getD s 0 ≠ 10) (h : find2 text s = some t) : s < t ∧ t < text.size := by
  have h1 := next2_ge _ _ h
  have h2 := (next2_spec _ _ h).2
  refine ⟨Nat.lt_of_le_of_ne h1.1 fun e => ?_, h1.2⟩
  subst e; exact hc h2

theorem sub_crlf {text : Array Nat} : ∀ (n k s : Nat), text.size - s = n → s ≤ text.size → n + 1 ≤ k → subOut (find2 text) text [13, 10] k s = crlf (text.toList.drop s)
  | 0, k, s, hn, hs, hk => by
    obtain ⟨k, rfl⟩ : ∃ j, k = j + 1 := ⟨k - 1, by omega⟩
    rw [subOut_end (by omega) (find2_end (by omega)), List.drop_eq_nil_of_le (by simp; omega)]
    rfl
  | n + 1, k, s, hn, hs, hk => by
    obtain ⟨k, rfl⟩ : ∃ j, k = j + 1 := ⟨k - 1, by omega⟩
    have h1 : s < text.size := by omega
    rw [drop_cons' h1]
    unfold crlf
    by_cases hc : text.getD s 0 = 10
    · rw [if_pos hc, subOut_hit (find2_hit h1 hc), sub_crlf n k (s + 1) (by omega) (by omega) (by omega)]
      rfl
    · rw [if_neg hc, subOut_miss h1 (find2_miss h1 hc) (fun t ht => find2_gt hc ht), sub_crlf n (k + 1) (s + 1) (by omega) (by omega) (by omega)]

theorem find1_hit {text : Array Nat} {s : Nat} (h : s < text.size) (hc : hit1 text text.size s = true) : find1 text s = some s := by
  unfold find1
  rw [show text.size + 1 - s = (text.size - s) + 1 by omega]
  unfold next1
  rw [if_pos hc]
theorem find1_miss {text : Array Nat} {s : Nat} (h : s < text.size) (hc : hit1 text text.size s = false) : find1 text s = find1 text (s + 1) := by
  unfold find1
  rw [show text.size + 1 - s = (text.size - s) + 1 by omega]
  conv => lhs; unfold next1
  rw [hc]
  exact next1_fuel _ _ _ (by omega) (by omega)
theorem find1_end {text : Array Nat} {s : Nat} (h : s = text.size) : find1 text s = none := by
  unfold find1
  rw [show text.size + 1 - s = 0 + 1 by omega]
  unfold next1
  have : hit1 text text.size s = false := by unfold hit1; simp; intros; omega
  rw [this]; rfl
theorem find1_gt {text : Array Nat} {s t : Nat} (h : s < text.size) (hc : hit1 text text.size s = false) (e : find1 text s = some t) : s < t ∧ t < text.size := by
  rw [find1_miss h hc] at e
  have := next1_ge _ _ e
  omega

theorem sub_dots {text : Array Nat} : ∀ (n k s : Nat), text.size - s = n → s ≤ text.size → n + 1 ≤ k → subOut (find1 text) text [46, 46] k s = dots (s == 0 || text.getD (s - 1) 0 == 10) (text.toList.drop s)
  | 0, k, s, hn, hs, hk => by
    obtain ⟨k, rfl⟩ : ∃ j, k = j + 1 := ⟨k - 1, by omega⟩
    rw [subOut_end (by omega) (find1_end (by omega)), List.drop_eq_nil_of_le (by simp; omega)]
    rfl
  | n + 1, k, s, hn, hs, hk => by
    obtain ⟨k, rfl⟩ : ∃ j, k = j + 1 := ⟨k - 1, by omega⟩
    have h1 : s < text.size := by omega
    rw [drop_cons' h1]
    unfold dots
    have hh : hit1 text text.size s = ((s == 0 || text.getD (s - 1) 0 == 10) && text.getD s 0 == 46) := by unfold hit1; simp [h1]
    by_cases hc : hit1 text text.size s = true
    · have h46 : text.getD s 0 = 46 := by
        rw [hh] at hc; simp only [Bool.and_eq_true, beq_iff_eq] at hc; exact hc.2
      rw [hh] at hc
      rw [if_pos hc, subOut_hit (find1_hit h1 (hh.trans hc)), sub_dots n k (s + 1) (by omega) (by omega) (by omega)]
      rw [Nat.add_sub_cancel, h46]
      rfl
    · have hc' : hit1 text text.size s = false := by simpa using hc
      rw [hh] at hc
      rw [if_neg hc, subOut_miss h1 (find1_miss h1 hc') (fun t ht => find1_gt h1 hc' ht), sub_dots n (k + 1) (s + 1) (by omega) (by omega) (by omega)]
      simp
end Mine
end PartQSpec
section PartEnc
set_option maxRecDepth 100000
namespace Mine
open PySem PySem.Calls PyProof.Rows PySem.Builtin PySem.Builtin._codecs

noncomputable def asBytes (x : Str) : Array UInt8 := (x.cps.toList.map fun c => c.toUInt8).toArray

theorem foldl_bytes (l : List Nat) : ∀ acc : Array UInt8, l.foldl (fun acc y => acc ++ (asciiCodec.bytesOf y).toArray) acc = acc ++ (l.map fun c => c.toUInt8).toArray := by
  induction l with
  | nil => intro acc; simp
  | cons c r ih => intro acc; rw [List.foldl_cons, ih]; simp [asciiCodec]

theorem range_once {β : Type} {f : Nat → β → Sem (ForInStep β)} {n : Nat} {a b : β} (h0 : n = 0 → a = b) (h1 : 0 < n → ∀ i, f i a = pure (.yield b)) (h2 : 0 < n → ∀ i, f i b = pure (.done b)) : forIn [:n] a f = pure b := by
  rw [Std.Legacy.Range.forIn_eq_forIn_range']
  show forIn (List.range' 0 ((n - 0 + 1 - 1) / 1)) a f = _
  rw [show (n - 0 + 1 - 1) / 1 = n by simp]
  cases n with
  | zero => rw [h0 rfl]; rfl
  | succ n =>
    rw [List.range'_succ, List.forIn_cons, h1 (Nat.succ_pos n)]
    cases n with
    | zero => rfl
    | succ n =>
      show forIn (List.range' (0 + 1) (n + 1)) b f = _
      rw [List.range'_succ, List.forIn_cons, h2 (Nat.succ_pos _)]
      rfl

theorem narrow_ascii {id : String} {self : Value} {x : Str} (h : ∀ c ∈ x.cps.toList, c < 128) (hx : x.cps.size ≤ 100000) : encodeNarrow id asciiCodec none self x = pure (asBytes x) := by
  unfold encodeNarrow
  have key : ∀ (f : Nat → Nat × Array UInt8 × Faults → Sem (ForInStep (Nat × Array UInt8 × Faults))), 
     (0 < x.length → ∀ i, f i (0, #[], {}) = pure (.yield (x.cps.size, asBytes x, {}))) → (0 < x.length → ∀ i, f i (x.cps.size, asBytes x, {}) = pure (.done (x.cps.size, asBytes x, {}))) →
     (forIn [:x.length] (0, (#[] : Array UInt8), ({} : Faults)) f >>= fun s => (pure s.2.1 : Sem (Array UInt8))) = pure (asBytes x) := by
    intro f h1 h2
    rw [range_once (b := (x.cps.size, asBytes x, {})) (fun e => ?_) h1 h2]
    · rfl
    · have e1 : x.cps.size = 0 := e
      have e2 : x.cps = #[] := Array.eq_empty_of_size_eq_zero e1
      unfold asBytes
      rw [e2]; rfl
  refine key _ (fun hp i => ?_) (fun hp i => ?_)
  · dsimp only
    rw [if_neg (by rw [sizeLine_eq]; decide)]
    have e0 : x.cps[0]? = some x.cps[0] := Array.getElem?_eq_getElem hp
    have hc : x.cps[0] < 128 := h _ (Array.mem_toList_iff.mpr (Array.getElem_mem _))
    rw [e0]
    dsimp only
    rw [if_pos (by simp [asciiCodec]; exact hc)]
    have ee : x.cps.extract 0 = x.cps := by simp
    have en : Array.findIdx? asciiCodec.bad x.cps = none := by
      rw [Array.findIdx?_eq_none_iff]
      intro c hc
      have := h c (Array.mem_toList_iff.mpr hc)
      simp [asciiCodec]; exact this
    rw [ee, en]
    dsimp only [Option.getD_none]
    have ee2 : x.cps.extract 0 x.cps.size = x.cps := by simp
    rw [ee2, Nat.zero_add, ← Array.foldl_toList, foldl_bytes]
    simp [asBytes]
  · dsimp only
    have hs : (asBytes x).size = x.cps.size := by simp [asBytes]
    rw [if_neg (by rw [hs, sizeLine_eq]; omega), Array.getElem?_eq_none (Nat.le_refl _)]

theorem range_steps {β : Type} {f : Nat → β → Sem (ForInStep β)} (S : Nat → β) {n : Nat} (h : ∀ i, i < n → f i (S i) = pure (.yield (S (i + 1)))) : forIn [:n] (S 0) f = pure (S n) := by
  rw [Std.Legacy.Range.forIn_eq_forIn_range']
  show forIn (List.range' 0 ((n - 0 + 1 - 1) / 1)) (S 0) f = _
  rw [show (n - 0 + 1 - 1) / 1 = n by simp]
  have go : ∀ (k i : Nat), i + k = n → forIn (List.range' i k) (S i) f = pure (S n) := by
    intro k
    induction k with
    | zero => intro i e; rw [show i = n by omega]; rfl
    | succ k ih =>
      intro i e
      rw [List.range'_succ, List.forIn_cons, h i (by omega)]
      show forIn (List.range' (i + 1) k) (S (i + 1)) f = _
      exact ih (i + 1) (by omega)
  exact go n 0 (by omega)

theorem decode_ascii {id : String} {b : Array UInt8} (h : ∀ c ∈ b.toList, c.toNat < 128) (hb : b.size ≤ 100000) :
    runDecoder id asciiDecoder none true b 0 [] = pure ((b.toList.map fun c => c.toNat).toArray, b.size) := by
  unfold runDecoder
  let S : Nat → Nat × Array Nat × Faults := fun i => (i, ((b.toList.take i).map fun c => c.toNat).toArray, { held := [] })
  have key : ∀ (f : Nat → Nat × Array Nat × Faults → Sem (ForInStep (Nat × Array Nat × Faults))), (∀ i, i < b.size → f i (S i) = pure (.yield (S (i + 1)))) →
     (forIn [:b.size] (S 0) f >>= fun s => (pure (s.2.1, s.1) : Sem (Array Nat × Nat))) = pure ((b.toList.map fun c => c.toNat).toArray, b.size) := by
    intro f hf
    rw [range_steps S hf]
    have e : b.toList.take b.size = b.toList := List.take_of_length_le (Nat.le_of_eq Array.length_toList)
    show (pure (((b.toList.take b.size).map fun c => c.toNat).toArray, b.size) : Sem (Array Nat × Nat)) = _
    rw [e]
  refine key _ fun i hi => ?_
  dsimp only [S]
  have hl : (List.map (fun c => c.toNat) (List.take i b.toList)).toArray.size ≤ b.size := by simp; omega
  rw [if_neg (by rw [sizeLine_eq]; omega), if_neg (by omega)]
  have hc : (b.getD i 0).toNat < 128 := by
    have : b.getD i 0 = b[i] := by simp [Array.getD, hi]
    rw [this]; exact h _ (Array.mem_toList_iff.mpr (Array.getElem_mem _))
  have ef : asciiDecoder.find true b i = .text [(b.getD i 0).toNat] (i + 1) := by
    show (if (b.getD i 0).toNat < 128 then _ else _) = _
    rw [if_pos hc]; rfl
  rw [ef]
  dsimp only
  have et : b.toList.take (i + 1) = b.toList.take i ++ [b.getD i 0] := by
    rw [List.take_add_one]
    simp [Array.getD, hi]
  rw [et]
  simp

namespace MF
theorem bind_encode (a : Value) : Builtin.Str.bindOptional "str.encode" "encode" 0 ["encoding", "errors"] [a] [] = pure [some a, none] := by kernel_rfl
theorem codec_ascii {id f which : String} {t : Tok} : Builtin.Str.codecArg id f which (some (.str (Str.ofString "ascii") t)) = pure (some (Str.ofString "ascii")) := by kernel_rfl
theorem road_ascii {id : String} {self : Value} {x : Str} : encodeRoad id self x (Str.ofString "ascii") none = (encodeNarrow id asciiCodec none self x >>= fun b => mkBytes b) := by kernel_rfl
theorem road_decode {id : String} {b : Array UInt8} : decodeRoad id b (Str.ofString "ascii") none [] = (runDecoder id asciiDecoder none true b 0 [] >>= fun r => mkStr ⟨r.1⟩) := by kernel_rfl
end MF
theorem asBytes_size (x : Str) : (asBytes x).size = x.cps.size := by simp [asBytes]

theorem meets_encode {x : Str} {t ta : Tok} (h : ∀ c ∈ x.cps.toList, c < 128) (hx : x.cps.size ≤ 100000) :
    Meets (Builtin.«str.encode» ⟨[.str x t, .str (Str.ofString "ascii") ta], []⟩) (fun _ R s => ∀ t', R (.ok (.ret (.bytes (asBytes x) t'))) { s with toks := s.toks + 1 }) := by
  refine .of_wp fun prog w A R s hS => ?_
  unfold Builtin.«str.encode»
  refine wpAny_bind ?_
  show wpAny _ _ (do let a ← Builtin.Str.textOf (.str x t); pure (Value.str x t, a, [Value.str (Str.ofString "ascii") ta])) _ _ _
  refine wpAny_bind (wpAny_of_eq (a := x) rfl (wpAny_pure ?_))
  dsimp only
  rw [MF.bind_encode]
  refine wpAny_bind (wpAny_pure ?_)
  dsimp only
  refine wpAny_bind (wpAny_of_eq MF.codec_ascii ?_)
  refine wpAny_bind (wpAny_pure ?_)
  show wpAny _ _ (encodeRoad "str.encode" (.str x t) x (Str.ofString "ascii") none >>= fun v => ret v) _ _ _
  rw [MF.road_ascii, narrow_ascii h hx]
  refine wpAny_bind (wpAny_bind (wpAny_pure (wpAny_mkBytes (wpAny_pure ⟨_, rfl, hS _⟩) ?_)))
  rw [asBytes_size, sizeLine_eq]; omega

theorem meets_decode {c : UInt8} {cs : List UInt8} {t ta : Tok} {x : Str} (hx : x.cps = ((c :: cs).map fun c => c.toNat).toArray) (h : ∀ d ∈ (c :: cs), d.toNat < 128) (hb : (c :: cs).length ≤ 100000) :
    Meets (Builtin.«bytes.decode» ⟨[.bytes (c :: cs).toArray t, .str (Str.ofString "ascii") ta], []⟩) (fun _ R s => ∀ t' k, R (.ok (.ret (.str x t'))) { s with toks := k }) := by
  refine .of_wp fun prog w A R s hS => ?_
  have entry_eq : Builtin.«bytes.decode» ⟨[.bytes (c :: cs).toArray t, .str (Str.ofString "ascii") ta], []⟩ = (mkStr (PySem.Str.ofString "utf-8") >>= fun _ => mkStr (PySem.Str.ofString "ascii") >>= fun e => mkStr (PySem.Str.ofString "bytes.decode") >>= fun d =>
    call (.builtin "_codecs.decode.text") [.bytes (c :: cs).toArray t, e, .none, d] >>= fun v => ret v) := by kernel_rfl
  rw [entry_eq]
  refine wpAny_bind (wpAny_mkStr ?_ (by decide))
  refine wpAny_bind (wpAny_mkStr ?_ (by decide))
  refine wpAny_bind (wpAny_mkStr ?_ (by decide))
  have hd : ∀ id, runDecoder id asciiDecoder none true (c :: cs).toArray 0 [] = pure (x.cps, (c :: cs).toArray.size) := fun id => by
    rw [decode_ascii (by simpa using h) (by simpa using hb), hx]
  have g : ∀ (t t1 t2 : Tok) (d : Str), Meets (Builtin.«_codecs.decode.text» ⟨[.bytes (c :: cs).toArray t, .str (PySem.Str.ofString "ascii") t1, .none, .str d t2], []⟩) (fun _ R s => x.length ≤ sizeLine ∧ R (.ok (.ret (.str x s.toks))) { s with toks := s.toks + 1 }) := by
    intro t t1 t2 d
    refine .of_wp fun prog w A R s hS => ?_
    obtain ⟨hsz, h⟩ := hS
    show wpAny _ _ (Bytes.bytesLike _ (.bytes (c :: cs).toArray t) >>= fun r => _) _ _ s
    refine wpAny_bind (wpAny_of_eq PySem.W.KBd.like_eq ?_)
    refine wpAny_bind (wpAny_of_eq PySem.W.KBd.held_eq ?_)
    show wpAny _ _ (_codecs.decodeRoad _ (c :: cs).toArray (PySem.Str.ofString "ascii") none [] >>= fun v => _) _ _ s
    rw [MF.road_decode, hd]
    refine wpAny_bind (wpAny_bind (wpAny_pure ?_))
    exact wpAny_mkStr (wpAny_pure ⟨_, rfl, h⟩) hsz
  have hsz : x.length ≤ sizeLine := by
    show x.cps.size ≤ _
    rw [hx, sizeLine_eq]; simp at hb ⊢; omega
  exact wpAny_bind (call_function_meets PySem.W.KBd.kind_text PySem.W.KBd.plain_text PySem.W.KBd.entry_text (PySem.W.KBd.args_text _ _ _ _) (g _ _ _ _) ⟨hsz, wpAny_pure ⟨_, rfl, hS _ _⟩⟩)
end Mine
end PartEnc
section PartTrl
set_option maxRecDepth 100000
namespace Mine
open PySem PySem.Calls PyProof.Rows PySem.Builtin

noncomputable def swapped (table b : Array UInt8) : Array UInt8 := b.map fun c => table.getD c.toNat c
theorem meets_translate {b table : Array UInt8} {t tt : Tok} (ht : table.size = 256) (hb : b.size ≤ 100000) :
    Meets (Builtin.«bytes.translate» ⟨[.bytes b t, .bytes table tt], []⟩) (fun _ R s => ∀ t' k, R (.ok (.ret (.bytes (swapped table b) t'))) { s with toks := k }) := by
  refine .of_wp fun prog w A R s hS => ?_
  unfold Builtin.«bytes.translate» Bytes.translateM
  dsimp only
  refine wpAny_ite ?_
  rw [if_neg (by simp)]
  refine wpAny_ite ?_
  rw [if_neg (by simp)]
  refine wpAny_ite ?_
  rw [if_neg (by simp)]
  refine wpAny_bind (wpAny_of_eq PySem.W.KBd.like_eq ?_)
  refine wpAny_ite ?_
  rw [if_neg (by simp [ht])]
  refine wpAny_bind (wpAny_pure ?_)
  dsimp only [List.head?_nil, Option.map_none]
  refine wpAny_bind (wpAny_pure ?_)
  refine wpAny_bind (wpAny_of_eq (a := b) rfl ?_)
  have ef : Array.filter (fun x => !(#[] : Array UInt8).contains x) b = b := by simp
  rw [ef]
  refine wpAny_ite ?_
  by_cases he : (Array.map (fun c => table.getD c.toNat c) b == b) = true
  · rw [if_pos he]
    refine wpAny_bind (wpAny_rule ?_)
    refine wpAny_bind ?_
    unfold Bytes.Kind.same
    refine wpAny_ite ?_
    rw [if_pos (by rfl)]
    refine wpAny_bind (wpAny_typeOf (PySem.W.typeIs_bytes s b t) ?_)
    refine wpAny_ite ?_
    rw [if_pos (by decide)]
    refine wpAny_pure (wpAny_pure ⟨_, rfl, ?_⟩)
    have := hS t s.toks
    unfold swapped at this
    rw [eq_of_beq he] at this
    exact this
  · rw [if_neg he]
    refine wpAny_bind ?_
    show wpAny _ _ (mkBytes (swapped table b)) _ _ _
    refine wpAny_mkBytes (wpAny_pure ⟨_, rfl, hS _ _⟩) ?_
    unfold swapped
    rw [Array.size_map, sizeLine_eq]; omega

noncomputable def transTable (f x : Array UInt8) : Array UInt8 := (f.toList.zip x.toList).foldl (fun t (f, x) => t.setIfInBounds f.toNat x) ((Array.range 256).map (·.toUInt8))
theorem transTable_size (f x : Array UInt8) : (transTable f x).size = 256 := by
  unfold transTable
  have : ∀ (l : List (UInt8 × UInt8)) (t : Array UInt8), (l.foldl (fun t (p : UInt8 × UInt8) => t.setIfInBounds p.1.toNat p.2) t).size = t.size := by
    intro l
    induction l with
    | nil => intro t; rfl
    | cons p r ih => intro t; rw [List.foldl_cons, ih, Array.size_setIfInBounds]
  have h := this (f.toList.zip x.toList) ((Array.range 256).map (·.toUInt8))
  rw [show ((Array.range 256).map (·.toUInt8)).size = 256 by simp] at h
  exact h
theorem meets_maketrans {f x : Array UInt8} {t tt : Tok} (hs : f.size = x.size) :
    Meets (Builtin.«bytes.maketrans» ⟨[.bytes f t, .bytes x tt], []⟩) (fun _ R s => ∀ t' k, R (.ok (.ret (.bytes (transTable f x) t'))) { s with toks := k }) := by
  refine .of_wp fun prog w A R s hS => ?_
  unfold Builtin.«bytes.maketrans» Bytes.maketransM
  refine wpAny_bind (wpAny_of_eq (a := ()) (by kernel_rfl) ?_)
  refine wpAny_bind (wpAny_of_eq (a := ()) (by kernel_rfl) ?_)
  refine wpAny_bind (wpAny_of_eq PySem.W.KBd.like_eq ?_)
  refine wpAny_bind (wpAny_of_eq PySem.W.KBd.like_eq ?_)
  refine wpAny_ite ?_
  rw [if_neg (by simp [hs])]
  refine wpAny_bind (wpAny_mkBytes (wpAny_pure ⟨_, rfl, hS _ _⟩) ?_)
  have := transTable_size f x
  rw [sizeLine_eq]
  show (transTable f x).size ≤ _
  omega
end Mine
end PartTrl
section PartSlc
set_option maxRecDepth 100000
namespace Mine
open PySem PySem.Spec PySem.Builtin PySem.Builtin.Str PyProof.Rows

noncomputable def cut (n : Nat) (v : Option Int) (d : Int) : Int := match v with
  | none => d
  | some i => max 0 (min (if i < 0 then i + n else i) n)
theorem range_same {a a' b b' : Int} (h : a = a') (k : b = b') : sliceRange a b 1 = sliceRange a' b' 1 := by subst h k; rfl
theorem slice_as {x : Str} {lo hi : Option Int} {a b : Int} (ea : cut x.length lo 0 = a) (eb : cut x.length hi x.length = b) (h0 : 0 ≤ a) (hab : a ≤ b) (hb : b ≤ x.length) :
    Txt.slice x lo hi = ⟨((x.cps.toList.drop a.toNat).take (b - a).toNat).toArray⟩ := by
  have e : strSliceIndices lo hi 1 x.length = strSliceIndices (some a) (some b) 1 x.length := by
    have h2 : (1 : Int) > 0 := by decide
    have ha' : ¬ a < 0 := by omega
    have hb' : ¬ b < 0 := by omega
    have r1 : max 0 (min a (x.length : Int)) = a := by omega
    have r2 : max 0 (min b (x.length : Int)) = b := by omega
    cases lo <;> cases hi <;> simp only [cut] at ea eb <;> simp only [strSliceIndices, h2, ha', hb', if_true, if_false, r1, r2] <;> exact range_same ea eb
  have e2 : Txt.slice x lo hi = Txt.slice x (some a) (some b) := by
    unfold Txt.slice
    rw [e]
  rw [e2]
  exact beq_iff_eq.mp (slice_closesL h0 hab hb)
/-- the last n signs -/
theorem slice_last {x : Str} {n : Int} {p q : List Nat} (hx : x.cps.toList = p ++ q) (hn : (q.length : Int) = n) (h0 : 0 < q.length) : Txt.slice x (some (-n)) none = ⟨q.toArray⟩ := by
  have hl : x.length = p.length + q.length := by
    show x.cps.size = _
    rw [← Array.length_toList, hx, List.length_append]
  rw [slice_as (a := p.length) (b := x.length) (by unfold cut; dsimp only; rw [if_pos (by omega)]; omega) (by rfl) (by omega) (by omega) (by omega)]
  rw [hx, Int.toNat_natCast, List.drop_left]
  congr 2
  rw [List.take_of_length_le]
  omega
end Mine
end PartSlc
section PartCt
set_option maxRecDepth 100000
open PySem PySem.Spec PySem.W PyProof.Rows PySem.Calls
namespace Mine
noncomputable abbrev Led := List (Addr × Obj)

/-- the contract of a def: called from any def's frame over a ledger that holds what is needed, it hands back a value and a longer ledger -/
noncomputable def Ct (w : World) (f : Addr) (vs : List Value) (kw : List (Str × Value)) (dd du : Nat) (need : Led) (post : Led → Value → Prop) : Prop :=
  ∀ (p : Program) (loose : List Str) (mean : ExcName → Option Value) (mg mb : Str → Option Value)
    (dp un : Nat) (gd : Option (List Code)) (cn : Str) (cs : Scope) (a : Addr) (ccd : Value) (cl : List (Str × Addr)) (outer : List Env) (A₀ : Around) (base h₀ : Heap) (L : Addr) (m : Str → Option Value)
    (news : Led) (s : Shared) (Q E : Value → Shared → Prop),
    Below A₀ base outer h₀ → Fr h₀ L s.heap m → (hd.heap_1 w.params).In h₀ → News h₀ L s.heap news → Top p loose mean mg mb h₀ → cs.kind = .function →
    (∀ q ∈ need, q ∈ news) → dp + dd < recursionLimit → un + du < cLine →
    (∀ (v : Value) (tl : Led) (h' : Heap) (tk' : Nat), Fr h₀ L h' m → News h₀ L h' (tl ++ news) → (∀ q ∈ news, ∀ p ∈ tl, q.1 ≠ p.1) → post tl v → Q v { s with heap := h', toks := tk' }) →
    wpAny (model PySem.Challenge.rw_kq0062_01.row.prog w) (ktrTop dp un gd cn cs L a ccd cl outer) (call (.ref f) vs kw) Q E s

/-- what a body comes to: a value, and what it made -/
noncomputable def Fin (g : Heap) (L' : Addr) (need : Led) (post : Led → Value → Prop) (s : Shared) (fl : Flow) (s' : Shared) : Prop :=
  ∃ (tl : Led) (m' : Str → Option Value) (h' : Heap) (tk' : Nat), s' = { s with heap := h', toks := tk' } ∧ Fr g L' h' m' ∧ News g L' h' (tl ++ need) ∧ (∀ q ∈ need, ∀ p ∈ tl, q.1 ≠ p.1) ∧
    post tl (match fl with | .ret v => v | _ => .none)

noncomputable def BodyOk (w : World) (f : Addr) (qual : Str) (body : List Stmt) (scope : Scope) (cdv : Value) (binds : List (Str × Value)) (dd du : Nat) (need : Led) (post : Led → Value → Prop) : Prop :=
  ∀ (p : Program) (loose : List Str) (mean : ExcName → Option Value) (mg mb : Str → Option Value)
    (dp un : Nat) (gd : Option (List Code)) (cn : Str) (cs : Scope) (a : Addr) (ccd : Value) (cl : List (Str × Addr)) (outer : List Env) (base g : Heap) (L L' : Addr) (s : Shared),
    Below (ktrTop dp un gd cn cs L a ccd cl outer) base (envX cn cs L a ccd cl :: outer) g → Fr g L' s.heap (fun y => binds.reverse.lookup y) → (hd.heap_1 w.params).In g → News g L' s.heap need → Top p loose mean mg mb g →
    (∀ q ∈ need, q.1 < L') → dp + dd < recursionLimit → un + du < cLine →
    wpAny (model PySem.Challenge.rw_kq0062_01.row.prog w) ((ktrTop dp un gd cn cs L a ccd cl outer).deeper (envOf qual scope L' f cdv)) (execs body (envOf qual scope L' f cdv)) (Fin g L' need post s) (fun _ _ => False) s

theorem ct_intro {w : World} {f : Addr} {vs : List Value} {kw : List (Str × Value)} {dd du : Nat} {need : Led} {post : Led → Value → Prop}
    {name qual : Str} {params : Arguments} {body : List Stmt} {scope : Scope} {dV kV doc pm cdv ct oc : Value} {an od : Option Addr} {osl : Array (Option Value)} {binds : List (Str × Value)}
    (ho : (hd.heap_1 w.params).lookup f = some ⟨oc, od, .func (fnOf name qual params body scope dV kV doc pm an cdv ct), osl⟩) (hcd : codeIn (hd.heap_1 w.params) cdv qual = true)
    (hbind : ∀ s : Shared, (hd.heap_1 w.params).In s.heap → BindsTo s (fnOf name qual params body scope dV kV doc pm an cdv ct) ⟨vs, kw⟩ binds) (hloc : (binds.all fun x => decide (scope.names.lookup x.1 = some .local)) = true)
    (hcell : ∀ x ∈ scope.names, x.2 ≠ .cell) (hco : scope.isCoroutine = false) (hgen : scope.isGenerator = false) (hk : scope.kind = .function) (hdd : 1 ≤ dd)
    (hbody : BodyOk w f qual body scope cdv binds dd du need post) : Ct w f vs kw dd du need post := by
  intro p loose mean mg mb dp un gd cn cs a ccd cl outer A₀ base h₀ L m news s Q E B F X N T hks hneed hd hu hret
  refine wpAny_call ?_
  have N₁ : News h₀ L s.heap need := fun q hq => N q (hneed q hq)
  obtain ⟨FG, BG, st, _⟩ := groundX (A := ktrTop dp un gd cn cs L a ccd cl outer) (R := fun _ _ => True) B F N₁ rfl rfl hks
  have hlim : s.heap.NoLimit := T.nolimit.keeps F.keep
  have X₁ := X.keeps F.keep
  refine codeAny_call_def (fd := fnOf name qual params body scope dV kV doc pm an cdv ct) (body := body) (binds := binds) (by show dp < _; omega) (X₁ _ _ ho) rfl hlim (codeRec_of X₁ hcd) rfl (hbind _ X₁) hcell (locs hloc) (fun h₁ hns hk₁ => ?_) hco hgen hk
  have hsz : ∀ q ∈ need, q.1 < s.heap.objs.size := fun q hq => Heap.lt_size (N₁ q hq).1
  have W := hbody p loose mean mg mb dp un gd cn cs a ccd cl outer base _ L s.heap.objs.size { s with heap := h₁, toks := s.toks + binds.length } BG
    ⟨hns, fun b o e => hk₁ b o (of_hideAll _ e), Nat.le_of_eq (hideAll_size _ _)⟩ (X.keeps st) (fun q hq => ⟨hk₁ _ _ (N₁ q hq).1, Nat.ne_of_lt (hsz q hq), hideAll_none _ (List.mem_map_of_mem hq)⟩) (T.keeps st) hsz hd hu
  refine wpAny_mono W (fun fl s' hfin => ?_) fun _ _ h => h.elim
  obtain ⟨tl, m', h', tk', rfl, F', N', ne', hpost⟩ := hfin
  -- the caller's frame
  have nm : ∀ b o, h₀.get? b = some o → b ∉ need.map (·.1) := fun b o e q => by
    obtain ⟨r, hr, rfl⟩ := List.mem_map.mp q
    rw [(N₁ r hr).2.2] at e; cases e
  obtain ⟨oL, es, ep, hL, hLd, hLk, hLf⟩ := F.ns
  have nL : L ∉ need.map (·.1) := fun q => by
    obtain ⟨r, hr, e⟩ := List.mem_map.mp q
    exact (N₁ r hr).2.1 e
  have hLg := hideAll_get (need.map (·.1)) hL nL
  have F₂ : Fr h₀ L h' m := ⟨⟨oL, es, ep, F'.keep L oL hLg, hLd, hLk, hLf⟩, fun b o e => F'.keep b o (st b o e), F.above⟩
  -- an object of the ledger that the callee does not see stands in its ground
  have seen : ∀ q ∈ news, q.1 ∉ need.map (·.1) → (hideAll s.heap (need.map (·.1))).get? q.1 = some q.2 := fun q hq hn => hideAll_get _ (N q hq).1 hn
  have inneed : ∀ q ∈ news, q.1 ∈ need.map (·.1) → q ∈ need := fun q hq hn => by
    obtain ⟨r, hr, e⟩ := List.mem_map.mp hn
    have h1 := (N q hq).1
    have h2 := (N₁ r hr).1
    rw [e] at h2
    rw [h1] at h2
    have : q = r := Prod.ext e.symm (Option.some.inj h2)
    rw [this]; exact hr
  refine hret _ tl h' tk' F₂ (fun q hq => ?_) (fun q hq r hr => ?_) hpost
  · rcases List.mem_append.mp hq with hq | hq
    · have z := N' q (List.mem_append_left _ hq)
      refine ⟨z.1, fun e => ?_, ?_⟩
      · have := z.2.2; rw [e, hLg] at this; cases this
      · cases e : h₀.get? q.1 with
        | none => rfl
        | some o => have := z.2.2; rw [st _ _ e] at this; cases this
    · refine ⟨?_, (N q hq).2⟩
      by_cases hn : q.1 ∈ need.map (·.1)
      · exact (N' q (List.mem_append_right _ (inneed q hq hn))).1
      · exact F'.keep _ _ (seen q hq hn)
  · by_cases hn : q.1 ∈ need.map (·.1)
    · exact ne' q (inneed q hq hn) r hr
    · intro e
      have z := (N' r (List.mem_append_left _ hr)).2.2
      rw [← e, seen q hq hn] at z; cases z

theorem ct_use {w : World} {f : Addr} {vs : List Value} {kw : List (Str × Value)} {dd du : Nat} {need : Led} {post : Led → Value → Prop} (C : Ct w f vs kw dd du need post)
    {p : Program} {loose : List Str} {mean : ExcName → Option Value} {mg mb : Str → Option Value}
    {dp un : Nat} {gd : Option (List Code)} {cn : Str} {cs : Scope} {a : Addr} {ccd : Value} {cl : List (Str × Addr)} {outer : List Env} {A₀ : Around} {base h₀ : Heap} {L : Addr} {m : Str → Option Value}
    {news : Led} {s : Shared} {Q E : Value → Shared → Prop}
    (B : Below A₀ base outer h₀) (F : Fr h₀ L s.heap m) (X : (hd.heap_1 w.params).In h₀) (N : News h₀ L s.heap news) (T : Top p loose mean mg mb h₀) (hk : cs.kind = .function)
    (hn : ∀ q ∈ need, q ∈ news) (hdp : dp + dd < recursionLimit) (hun : un + du < cLine)
    (h : ∀ (v : Value) (tl : Led) (h' : Heap) (tk' : Nat), Fr h₀ L h' m → News h₀ L h' (tl ++ news) → (∀ q ∈ news, ∀ p ∈ tl, q.1 ≠ p.1) → post tl v → Q v { s with heap := h', toks := tk' }) :
    wpAny (model PySem.Challenge.rw_kq0062_01.row.prog w) (ktrTop dp un gd cn cs L a ccd cl outer) (call (.ref f) vs kw) Q E s := C _ _ _ _ _ _ _ _ _ _ _ _ _ _ _ _ _ _ _ _ _ _ _ B F X N T hk hn hdp hun h
end Mine
end PartCt
section PartQ1
open PySem PySem.Spec PySem.W PyProof.Rows PySem.Calls
set_option Elab.async false
set_option maxRecDepth 100000
namespace Mine
theorem fill_here (w : World) : (fun (_ : Program) (_ : Frag) => True) PySem.Challenge.rw_kq0062_01.row.prog (hd.heap_1 w.params) := by
  k_fill
  trivial
noncomputable def b64val (c : Int) : Int := if 65 ≤ c ∧ c ≤ 90 then c - 65 else if 97 ≤ c ∧ c ≤ 122 then c - 71 else if 48 ≤ c ∧ c ≤ 57 then c + 4 else if c = 43 then 62 else if c = 47 then 63 else 64
set_option maxHeartbeats 0 in
theorem value_ct (w : World) (c : Int) (t : Tok) : Ct w 104 [.int c t] [] 1 8 [] (fun tl v => tl = [] ∧ ∃ t, v = .int (b64val c) t) := by
  refine' ct_intro (binds := [(Str.ofString "c", .int c t)]) ?ho ?hcd ?hb ?hl ?hc ?hco ?hg ?hk ?hdd ?body
  case ho => k_is
  case hcd => k_is
  case hb => exact fun s _ => BindsTo.of_eq rfl
  case hl => exact rfl
  case hc => decide
  case hco => exact rfl
  case hg => exact rfl
  case hk => exact rfl
  case hdd => decide
  intro p loose mean mg mb dp un gd cn cs a ccd cl outer base g L L' s B F X N T hlt hd hu
  k_fold
  k_steps
  all_goals (refine ⟨[], _, _, _, rfl, by k_asm, by k_asm, by simp, rfl, Exists.intro _ (congrArg (fun z => Value.int z _) ?_)⟩)
  all_goals (unfold b64val)
  all_goals (repeat' split) <;> omega
end Mine
end PartQ1
section PartQuo
open PySem PySem.Spec PySem.W PyProof.Rows PySem.Calls
set_option Elab.async false
set_option maxRecDepth 100000
namespace Mine
theorem fill_quo (w : World) : (fun (_ : Program) (_ : Frag) => True) PySem.Challenge.rw_kq0062_01.row.prog (hd.heap_1 w.params) := by
  k_fill
  trivial
theorem pat1_of {w : World} {h : Heap} (X : (hd.heap_1 w.params).In h) : PatAt h 43 42 Rx.code1 :=
  ⟨⟨_, _, _, _, X _ _ (by k_is)⟩, _, _, X _ _ (by k_is), by decide +kernel⟩
theorem pat2_of {w : World} {h : Heap} (X : (hd.heap_1 w.params).In h) : PatAt h 48 47 Rx.code2 :=
  ⟨⟨_, _, _, _, X _ _ (by k_is)⟩, _, _, X _ _ (by k_is), by decide +kernel⟩

noncomputable def quoted (x : Str) : Str := ⟨(dots true (crlf x.cps.toList)).toArray⟩

section
variable {prog : Program} {w : World} {A : Around} {E : Value → Shared → Prop} {s : Shared} {h₀ : Heap} {L : Addr} {m : Str → Option Value} {news : Led} {x : Str} {tx tr : Tok} {Q : Value → Shared → Prop}
theorem dot_sub (X : (hd.heap_1 w.params).In h₀) (F : Fr h₀ L s.heap m) (N : News h₀ L s.heap news) (hx : x.cps.size ≤ 100000)
    (h : ∀ h' tk' t', Fr h₀ L h' m → News h₀ L h' news → Q (.str ⟨(dots true x.cps.toList).toArray⟩ t') { s with heap := h', toks := tk' }) :
    wpAny (model prog w) A (call (.builtin "re.Pattern.sub") [.ref 43, .str (Str.ofString "..") tr, .str x tx]) Q E s := by
  refine call_sub (finds1 x.cps hx) hx (by decide +kernel) (by decide +kernel) (pat1_of (X.keeps F.keep)) fun h' tk' t' hk => ?_
  have e : subOut (Rx.find1 x.cps) x.cps (Str.ofString "..").cps.toList (x.cps.size + 1) 0 = dots true x.cps.toList := by
    rw [show (Str.ofString "..").cps.toList = [46, 46] from by decide]
    exact sub_dots x.cps.size _ 0 rfl (Nat.zero_le _) (Nat.le_refl _)
  rw [e]
  exact h h' tk' t' (F.keeps hk) (N.grown hk)
theorem crlf_sub (X : (hd.heap_1 w.params).In h₀) (F : Fr h₀ L s.heap m) (N : News h₀ L s.heap news) (hx : x.cps.size ≤ 100000) (h13 : 13 ∉ x.cps.toList)
    (h : ∀ h' tk' t', Fr h₀ L h' m → News h₀ L h' news → Q (.str ⟨(crlf x.cps.toList).toArray⟩ t') { s with heap := h', toks := tk' }) :
    wpAny (model prog w) A (call (.builtin "re.Pattern.sub") [.ref 48, .str (Str.ofString "\r\n") tr, .str x tx]) Q E s := by
  have h13' : ∀ i, x.cps.getD i 0 ≠ 13 := fun i e => by
    by_cases hi : i < x.cps.size
    · apply h13
      rw [← e]
      simp [Array.getD, hi]
    · simp [Array.getD, hi] at e
  refine call_sub (finds2 x.cps h13') hx (by decide +kernel) (by decide +kernel) (pat2_of (X.keeps F.keep)) fun h' tk' t' hk => ?_
  have e : subOut (Rx.find2 x.cps) x.cps (Str.ofString "\r\n").cps.toList (x.cps.size + 1) 0 = crlf x.cps.toList := by
    rw [show (Str.ofString "\r\n").cps.toList = [13, 10] from by decide]
    exact sub_crlf x.cps.size _ 0 rfl (Nat.zero_le _) (Nat.le_refl _)
  rw [e]
  exact h h' tk' t' (F.keeps hk) (N.grown hk)
end
theorem crlf_len : ∀ l : List Nat, (crlf l).length ≤ 2 * l.length
  | [] => Nat.le_refl _
  | c :: r => by
    have := crlf_len r
    unfold crlf
    split <;> simp only [List.length_cons] <;> omega

local macro_rules | `(tactic| walk_at "getMethod ref") => `(tactic| (k_here; (with_reducible show wpAny _ _ (getMethod (Value.ref _) (Str.ofString "sub") _) _ _ _); k_dflt (first
  | (refine' method_sub (pat1_of (Frag.In.keeps ?X (Fr.keep ?F))) ?_; (case X => k_asm); (case F => k_asm))
  | (refine' method_sub (pat2_of (Frag.In.keeps ?X (Fr.keep ?F))) ?_; (case X => k_asm); (case F => k_asm)))))
local macro_rules | `(tactic| walk_at "call builtin:re.Pattern.sub") => `(tactic| (k_here; k_dflt (first
  | (refine' dot_sub ?X ?F ?N ?hx ?_; (case X => k_asm); (case F => k_asm); (case N => k_asm); (case hx => (first | assumption | (have hcl := crlf_len; simp only [List.size_toArray]; exact Nat.le_trans (hcl _) (by simp only [Array.length_toList]; omega)))))
  | (refine' crlf_sub ?X ?F ?N ?hx ?h3 ?_; (case X => k_asm); (case F => k_asm); (case N => k_asm); (case hx => omega); (case h3 => assumption))); intro h' tk' t' F' N'))
set_option maxHeartbeats 0 in
theorem quo_ct (w : World) (x : Str) (t : Tok) (hx : x.cps.size ≤ 40000) (h13 : 13 ∉ x.cps.toList) : Ct w 55 [.str x t] [] 1 8 [] (fun tl v => tl = [] ∧ ∃ t, v = .str (quoted x) t) := by
  refine' ct_intro (binds := [(Str.ofString "data", .str x t)]) ?ho ?hcd ?hb ?hl ?hc ?hco ?hg ?hk ?hdd ?body
  case ho => k_is
  case hcd => k_is
  case hb => exact fun s _ => BindsTo.of_eq rfl
  case hl => exact rfl
  case hc => decide
  case hco => exact rfl
  case hg => exact rfl
  case hk => exact rfl
  case hdd => decide
  intro p loose mean mg mb dp un gd cn cs a ccd cl outer base g L L' s B F X N T hlt hd hu
  k_fold
  k_steps
  exact ⟨[], _, _, _, rfl, by k_asm, by k_asm, by simp, rfl, ⟨_, rfl⟩⟩
end Mine
end PartQuo
section PartB64a
open PySem PySem.Spec PySem.W PyProof.Rows PySem.Calls
set_option Elab.async false
set_option maxRecDepth 100000
namespace Mine
theorem fill_B64a (w : World) : (fun (_ : Program) (_ : Frag) => True) PySem.Challenge.rw_kq0062_01.row.prog (hd.heap_1 w.params) := by
  k_fill
  trivial
section
variable {prog : Program} {w : World} {M : Model} {A : Around} {E : Value → Shared → Prop} {s : Shared} {x : Str} {b : Array UInt8} {t ta : Tok}
theorem method_encode {pl : Sem Bool} {Q : Value × List Value → Shared → Prop} (h : Q (.builtin "str.encode", [.str x t]) s) : wpAny M A (getMethod (.str x t) "encode" pl) Q E s := by
  with_reducible exact GM.of (.str x t) (typeIs_str _ _ _) MF.slot_str_encode MF.type_str_encode GM.noRef h
theorem call_encode {Q : Value → Shared → Prop} (hc : ∀ c ∈ x.cps.toList, c < 128) (hx : x.cps.size ≤ 100000) (h : ∀ t', Q (.bytes (asBytes x) t') { s with toks := s.toks + 1 }) :
    wpAny (model prog w) A (call (.builtin "str.encode") [.str x t, .str (Str.ofString "ascii") ta]) Q E s :=
  call_meets MF.slot_str_encode (typeIs_str _ _ _) MF.entry_str_encode (MF.args_str_encode_2 _ _) (meets_encode hc hx) h
theorem type_bytes {Q : Value → Shared → Prop} (h : Q (.type "bytes") s) : wpAny (model prog w) A (call (.type "type") [.bytes b t]) Q E s :=
  call_type_of (Tx := "bytes") rfl (by decide +kernel) h
end
local macro_rules | `(tactic| walk_at "getMethod str") => `(tactic| (k_here; with_reducible refine method_encode ?_))
local macro_rules | `(tactic| walk_at "call builtin:str.encode") => `(tactic| (k_here; k_dflt (refine call_encode (by assumption) (by assumption) ?_); intro _))
local macro_rules | `(tactic| walk_at "call type:type") => `(tactic| (k_here; (with_reducible show wpAny _ _ (call _ [Value.bytes _ _]) _ _ _); k_dflt (refine type_bytes ?_)))
set_option maxHeartbeats 0 in
theorem frombytes_ct (w : World) (x : Str) (t : Tok) (hc : ∀ c ∈ x.cps.toList, c < 128) (hx : x.cps.size ≤ 100000) : Ct w 63 [.str x t] [] 1 8 [] (fun tl v => tl = [] ∧ ∃ t, v = .bytes (asBytes x) t) := by
  refine' ct_intro (binds := [(Str.ofString "s", .str x t)]) ?ho ?hcd ?hb ?hl ?hc ?hco ?hg ?hk ?hdd ?body
  case ho => k_is
  case hcd => k_is
  case hb => exact fun s X => BindsTo.of_eq rfl
  case hl => exact rfl
  case hc => decide
  case hco => exact rfl
  case hg => exact rfl
  case hk => exact rfl
  case hdd => decide
  intro p loose mean mg mb dp un gd cn cs a ccd cl outer base g L L' s B F X N T hlt hd hu
  k_fold
  k_steps
  all_goals exact ⟨[], _, _, _, rfl, by k_asm, by k_asm, by simp, rfl, ⟨_, rfl⟩⟩
set_option maxHeartbeats 0 in
theorem frombytes_b_ct (w : World) (b : Array UInt8) (t : Tok) : Ct w 63 [.bytes b t] [] 1 8 [] (fun tl v => tl = [] ∧ ∃ t, v = .bytes b t) := by
  refine' ct_intro (binds := [(Str.ofString "s", .bytes b t)]) ?ho ?hcd ?hb ?hl ?hc ?hco ?hg ?hk ?hdd ?body
  case ho => k_is
  case hcd => k_is
  case hb => exact fun s X => BindsTo.of_eq rfl
  case hl => exact rfl
  case hc => decide
  case hco => exact rfl
  case hg => exact rfl
  case hk => exact rfl
  case hdd => decide
  intro p loose mean mg mb dp un gd cn cs a ccd cl outer base g L L' s B F X N T hlt hd hu
  k_fold
  k_steps
  all_goals exact ⟨[], _, _, _, rfl, by k_asm, by k_asm, by simp, rfl, ⟨_, rfl⟩⟩
set_option maxHeartbeats 0 in
theorem asciibuf_ct (w : World) (b : Array UInt8) (t : Tok) : Ct w 83 [.bytes b t] [] 1 8 [] (fun tl v => tl = [] ∧ ∃ t, v = .bytes b t) := by
  refine' ct_intro (binds := [(Str.ofString "data", .bytes b t)]) ?ho ?hcd ?hb ?hl ?hc ?hco ?hg ?hk ?hdd ?body
  case ho => k_is
  case hcd => k_is
  case hb => exact fun s X => BindsTo.of_eq rfl
  case hl => exact rfl
  case hc => decide
  case hco => exact rfl
  case hg => exact rfl
  case hk => exact rfl
  case hdd => decide
  intro p loose mean mg mb dp un gd cn cs a ccd cl outer base g L L' s B F X N T hlt hd hu
  k_fold
  k_steps
  all_goals exact ⟨[], _, _, _, rfl, by k_asm, by k_asm, by simp, rfl, ⟨_, rfl⟩⟩
set_option maxHeartbeats 0 in
theorem buf_ct (w : World) (b : Array UInt8) (t : Tok) : Ct w 90 [.bytes b t] [] 1 8 [] (fun tl v => tl = [] ∧ ∃ t, v = .bytes b t) := by
  refine' ct_intro (binds := [(Str.ofString "data", .bytes b t)]) ?ho ?hcd ?hb ?hl ?hc ?hco ?hg ?hk ?hdd ?body
  case ho => k_is
  case hcd => k_is
  case hb => exact fun s X => BindsTo.of_eq rfl
  case hl => exact rfl
  case hc => decide
  case hco => exact rfl
  case hg => exact rfl
  case hk => exact rfl
  case hdd => decide
  intro p loose mean mg mb dp un gd cn cs a ccd cl outer base g L L' s B F X N T hlt hd hu
  k_fold
  k_steps
  all_goals exact ⟨[], _, _, _, rfl, by k_asm, by k_asm, by simp, rfl, ⟨_, rfl⟩⟩
set_option maxHeartbeats 0 in
theorem truth_ct (w : World) : Ct w 97 [.bool false] [] 1 8 [] (fun tl v => tl = [] ∧ v = .bool false) := by
  refine' ct_intro (binds := [(Str.ofString "x", .bool false)]) ?ho ?hcd ?hb ?hl ?hc ?hco ?hg ?hk ?hdd ?body
  case ho => k_is
  case hcd => k_is
  case hb => exact fun s X => BindsTo.of_eq rfl
  case hl => exact rfl
  case hc => decide
  case hco => exact rfl
  case hg => exact rfl
  case hk => exact rfl
  case hdd => decide
  intro p loose mean mg mb dp un gd cn cs a ccd cl outer base g L L' s B F X N T hlt hd hu
  k_fold
  k_steps
  all_goals exact ⟨[], _, _, _, rfl, by k_asm, by k_asm, by simp, rfl, rfl⟩
end Mine
end PartB64a
section PartDec
namespace Mine
open PySem PySem.W PyProof.Rows

theorem bitOr_nonneg {x y : Int} (hx : 0 ≤ x) (hy : 0 ≤ y) : Builtin.bitOr x y = ((x.toNat ||| y.toNat : Nat) : Int) := by
  unfold Builtin.bitOr Builtin.bitAnd Builtin.bitNot
  have h1 : decide (0 ≤ -x - 1) = false := by simp; omega
  have h2 : decide (0 ≤ -y - 1) = false := by simp; omega
  rw [h1, h2]
  dsimp only
  have e1 : (-(-x - 1) - 1).toNat = x.toNat := by congr 1; omega
  have e2 : (-(-y - 1) - 1).toNat = y.toNat := by congr 1; omega
  rw [e1, e2]
  omega
theorem bitOr_low {a b : Int} (k : Nat) (ha : 0 ≤ a) (hb : 0 ≤ b) (hk : b < 2 ^ k) : Builtin.bitOr (a * 2 ^ k) b = a * 2 ^ k + b := by
  have h2 : (0 : Int) ≤ a * 2 ^ k := Int.mul_nonneg ha (by exact_mod_cast Nat.zero_le _)
  rw [bitOr_nonneg h2 hb]
  obtain ⟨n, rfl⟩ := Int.eq_ofNat_of_zero_le ha
  obtain ⟨m, rfl⟩ := Int.eq_ofNat_of_zero_le hb
  have hm : m < 2 ^ k := by exact_mod_cast hk
  have e : ((n : Int) * 2 ^ k).toNat = 2 ^ k * n := by
    have : ((n : Int) * 2 ^ k) = ((n * 2 ^ k : Nat) : Int) := by push_cast; rfl
    rw [this, Int.toNat_natCast, Nat.mul_comm]
  rw [e, Int.toNat_natCast, ← Nat.two_pow_add_eq_or_of_lt hm]
  push_cast
  rw [Int.mul_comm]
/-- the machine of a2b_base64: the figures' place in the four, what is left of the last, the octets -/
noncomputable def decStep (st : Int × Int × List Int) (c : Int) : Int × Int × List Int :=
  let v := b64val c
  if v ≥ 64 then st else
  if st.1 = 0 then (1, v, st.2.2) else
  if st.1 = 1 then (2, v % 16, st.2.2 ++ [st.2.1 * 4 + v / 16]) else
  if st.1 = 2 then (3, v % 4, st.2.2 ++ [st.2.1 * 16 + v / 4]) else
  (0, 0, st.2.2 ++ [st.2.1 * 64 + v])
noncomputable def decF (pre : List Int) : Int × Int × List Int := pre.foldl decStep (0, 0, [])
structure A2S where
  q : Int
  l : Int
  i : Int
  tq : Tok
  tl : Tok
  tp : Tok
  ti : Tok
  vs : List Value
  ns : List Int
  n : Nat
noncomputable def A2P (pre : List Int) (c : A2S) : Prop := (c.q, c.l, c.ns) = decF pre ∧ 0 ≤ c.i ∧ c.i ≤ (pre.length : Int) ∧ 0 ≤ c.q ∧ c.q ≤ 3 ∧ 0 ≤ c.l ∧ c.l < 64 ∧ c.ns.length ≤ pre.length
theorem a2p_nil (tq tl tp ti : Tok) (n : Nat) : A2P [] ⟨0, 0, 0, tq, tl, tp, ti, [], [], n⟩ := ⟨rfl, Int.le_refl _, Int.le_refl _, Int.le_refl _, (by decide : (0 : Int) ≤ 3), Int.le_refl _, (by decide : (0 : Int) < 64), Nat.le_refl _⟩

theorem b64val_range (c : Int) : 0 ≤ b64val c ∧ b64val c ≤ 64 := by
  unfold b64val
  repeat' split
  all_goals omega
theorem decF_snoc (pre : List Int) (c : Int) : decF (pre ++ [c]) = decStep (decF pre) c := by
  unfold decF
  rw [List.foldl_append]; rfl
/-- the state is in its bounds, the octets are octets -/
noncomputable def DecOk (st : Int × Int × List Int) : Prop := 0 ≤ st.1 ∧ st.1 ≤ 3 ∧ 0 ≤ st.2.1 ∧ (st.1 = 0 → st.2.1 = 0) ∧ (st.1 = 1 → st.2.1 < 64) ∧ (st.1 = 2 → st.2.1 < 16) ∧ (st.1 = 3 → st.2.1 < 4) ∧ ∀ n ∈ st.2.2, 0 ≤ n ∧ n < 256
theorem dec_mk {q l : Int} {ns : List Int} (h1 : 0 ≤ q ∧ q ≤ 3 ∧ 0 ≤ l) (h4 : q ≠ 0 ∨ l = 0) (h5 : q ≠ 1 ∨ l < 64) (h6 : q ≠ 2 ∨ l < 16) (h7 : q ≠ 3 ∨ l < 4) (h8 : ∀ n ∈ ns, 0 ≤ n ∧ n < 256) : DecOk (q, l, ns) := by
  refine ⟨h1.1, h1.2.1, h1.2.2, ?_, ?_, ?_, ?_, h8⟩ <;> (dsimp only; omega)
theorem decStep_ok {st : Int × Int × List Int} (h : DecOk st) (c : Int) : DecOk (decStep st c) := by
  obtain ⟨q, l, ns⟩ := st
  obtain ⟨h1, h2, h3, h4, h5, h6, h7, h8⟩ := h
  have hv := b64val_range c
  unfold decStep
  dsimp only at *
  generalize b64val c = v at hv ⊢
  by_cases e0 : v ≥ 64
  · rw [if_pos e0]; exact ⟨h1, h2, h3, h4, h5, h6, h7, h8⟩
  rw [if_neg e0]
  by_cases e1 : q = 0
  · rw [if_pos e1]; exact dec_mk (by omega) (by omega) (by omega) (by omega) (by omega) h8
  rw [if_neg e1]
  have app : ∀ m : Int, 0 ≤ m → m < 256 → ∀ n ∈ ns ++ [m], 0 ≤ n ∧ n < 256 := fun m a b n hn => by
    rcases List.mem_append.mp hn with hn | hn
    · exact h8 n hn
    · rw [List.mem_singleton.mp hn]; exact ⟨a, b⟩
  by_cases e2 : q = 1
  · rw [if_pos e2]
    have := h5 e2
    exact dec_mk (by omega) (by omega) (by omega) (by omega) (by omega) (app _ (by omega) (by omega))
  rw [if_neg e2]
  by_cases e3 : q = 2
  · rw [if_pos e3]
    have := h6 e3
    exact dec_mk (by omega) (by omega) (by omega) (by omega) (by omega) (app _ (by omega) (by omega))
  rw [if_neg e3]
  have := h7 (by omega)
  exact dec_mk (by omega) (by omega) (by omega) (by omega) (by omega) (app _ (by omega) (by omega))
theorem decF_ok (pre : List Int) : DecOk (decF pre) := by
  have go : ∀ (l : List Int) (st : Int × Int × List Int), DecOk st → DecOk (l.foldl decStep st) := by
    intro l
    induction l with
    | nil => exact fun _ h => h
    | cons c r ih => exact fun st h => ih _ (decStep_ok h c)
  exact go pre _ (dec_mk (by decide) (by decide) (by decide) (by decide) (by decide) fun n hn => nomatch hn)
theorem decF_len (pre : List Int) : (decF pre).2.2.length ≤ pre.length := by
  have go : ∀ (l : List Int) (st : Int × Int × List Int), (l.foldl decStep st).2.2.length ≤ st.2.2.length + l.length := by
    intro l
    induction l with
    | nil => exact fun _ => Nat.le_refl _
    | cons c r ih =>
      intro st
      refine Nat.le_trans (ih _) ?_
      have : (decStep st c).2.2.length ≤ st.2.2.length + 1 := by
        unfold decStep
        dsimp only
        repeat' split
        all_goals simp
      rw [List.length_cons]; omega
  have := go pre (0, 0, [])
  rw [List.length_nil, Nat.zero_add] at this
  exact this
theorem a2p_of {pre : List Int} {q l i : Int} {tq tl tp ti : Tok} {vs : List Value} {ns : List Int} {n : Nat} (h : decF pre = (q, l, ns)) (h0 : 0 ≤ i) (h1 : i ≤ (pre.length : Int)) : A2P pre ⟨q, l, i, tq, tl, tp, ti, vs, ns, n⟩ := by
  have ok := decF_ok pre
  have len := decF_len pre
  rw [h] at ok len
  obtain ⟨k1, k2, k3, k4, k5, k6, k7, k8⟩ := ok
  refine ⟨h.symm, h0, h1, k1, k2, k3, ?_, len⟩
  dsimp only at *
  have : q = 0 ∨ q = 1 ∨ q = 2 ∨ q = 3 := by omega
  rcases this with e | e | e | e
  · have := k4 e; omega
  · have := k5 e; omega
  · have := k6 e; omega
  · have := k7 e; omega

section
variable {pre : List Int} {q l i c0 : Int} {tq tl tp ti : Tok} {vs : List Value} {ns : List Int} {n : Nat}
theorem a2p_skip (hP : (q, l, ns) = decF pre) (h0 : 0 ≤ i) (h1 : i ≤ (pre.length : Int)) (hv : 64 ≤ b64val c0) : A2P (pre ++ [c0]) ⟨q, l, i + 1, tq, tl, tp, ti, vs, ns, n⟩ := by
  refine a2p_of ?_ (by omega) (by rw [List.length_append, List.length_singleton]; omega)
  rw [decF_snoc, ← hP]; unfold decStep; dsimp only; rw [if_pos hv]
theorem a2p_first (hP : (q, l, ns) = decF pre) (h0 : 0 ≤ i) (h1 : i ≤ (pre.length : Int)) (hv : ¬ 64 ≤ b64val c0) (hq : q = 0) : A2P (pre ++ [c0]) ⟨1, b64val c0, i + 1, tq, tl, tp, ti, vs, ns, n⟩ := by
  refine a2p_of ?_ (by omega) (by rw [List.length_append, List.length_singleton]; omega)
  rw [decF_snoc, ← hP]; unfold decStep; dsimp only; rw [if_neg hv, if_pos hq]
theorem a2p_second (hP : (q, l, ns) = decF pre) (h0 : 0 ≤ i) (h1 : i ≤ (pre.length : Int)) (hv : ¬ 64 ≤ b64val c0) (hq : q = 1) :
    A2P (pre ++ [c0]) ⟨2, Builtin.bitAnd (b64val c0) 15, i + 1, tq, tl, tp, ti, vs, ns ++ [Builtin.bitOr (l * 2 ^ Int.toNat 2) ((b64val c0).fdiv (2 ^ Int.toNat 4))], n⟩ := by
  have hv2 := b64val_range c0
  have ok := decF_ok pre
  rw [← hP] at ok
  refine a2p_of ?_ (by omega) (by rw [List.length_append, List.length_singleton]; omega)
  rw [decF_snoc, ← hP]; unfold decStep; dsimp only; rw [if_neg hv, if_neg (by omega), if_pos hq, bitAnd_m4, show Int.toNat 2 = 2 from rfl, show (2 : Int) ^ Int.toNat 4 = 16 from by decide, Int.fdiv_eq_ediv_of_nonneg _ (by decide),
    bitOr_low 2 ok.2.2.1 (by omega) (by omega)]
  rfl
theorem a2p_third (hP : (q, l, ns) = decF pre) (h0 : 0 ≤ i) (h1 : i ≤ (pre.length : Int)) (hv : ¬ 64 ≤ b64val c0) (hq : q = 2) :
    A2P (pre ++ [c0]) ⟨3, Builtin.bitAnd (b64val c0) 3, i + 1, tq, tl, tp, ti, vs, ns ++ [Builtin.bitOr (l * 2 ^ Int.toNat 4) ((b64val c0).fdiv (2 ^ Int.toNat 2))], n⟩ := by
  have hv2 := b64val_range c0
  have ok := decF_ok pre
  rw [← hP] at ok
  refine a2p_of ?_ (by omega) (by rw [List.length_append, List.length_singleton]; omega)
  rw [decF_snoc, ← hP]; unfold decStep; dsimp only; rw [if_neg hv, if_neg (by omega), if_neg (by omega), if_pos hq, bitAnd_m2, show Int.toNat 4 = 4 from rfl, show (2 : Int) ^ Int.toNat 2 = 4 from by decide, Int.fdiv_eq_ediv_of_nonneg _ (by decide),
    bitOr_low 4 ok.2.2.1 (by omega) (by omega)]
  rfl
theorem a2p_fourth (hP : (q, l, ns) = decF pre) (h0 : 0 ≤ i) (h1 : i ≤ (pre.length : Int)) (hv : ¬ 64 ≤ b64val c0) (hq0 : q ≠ 0) (hq1 : q ≠ 1) (hq2 : q ≠ 2) :
    A2P (pre ++ [c0]) ⟨0, 0, i + 1, tq, tl, tp, ti, vs, ns ++ [Builtin.bitOr (l * 2 ^ Int.toNat 6) (b64val c0)], n⟩ := by
  have hv2 := b64val_range c0
  have ok := decF_ok pre
  rw [← hP] at ok
  refine a2p_of ?_ (by omega) (by rw [List.length_append, List.length_singleton]; omega)
  rw [decF_snoc, ← hP]; unfold decStep; dsimp only; rw [if_neg hv, if_neg hq0, if_neg hq1, if_neg hq2, show Int.toNat 6 = 6 from rfl, bitOr_low 6 ok.2.2.1 (by omega) (by omega)]
  rfl
theorem ints_snoc {x : Int} {t : Tok} (h : IntsAre vs ns) : IntsAre (vs ++ [.int x t]) (ns ++ [x]) := h.append (.cons _ _ .nil)
end
end Mine
end PartDec
section PartA2b
open PySem PySem.Spec PySem.W PyProof.Rows PySem.Calls
set_option Elab.async false
set_option maxRecDepth 100000
namespace Mine
theorem fill_A2b (w : World) : (fun (_ : Program) (_ : Frag) => True) PySem.Challenge.rw_kq0062_01.row.prog (hd.heap_1 w.params) := by
  k_fill
  trivial
noncomputable abbrev A2Ps (c : A2S) : List (Str × Value) := [(Str.ofString "quad_pos", .int c.q c.tq), (Str.ofString "leftchar", .int c.l c.tl), (Str.ofString "pads", .int 0 c.tp), (Str.ofString "i", .int c.i c.ti)]
theorem a2b_end {h₀ : Heap} {D L : Addr} {x : Str} {m₀ m' : Str → Option Value} {pre : List Int} {own news' : Led} {s₁ : Shared} {h' : Heap} {tk : Nat} {q l i : Int} {tq tl tp ti : Tok} {vs : List Value} {ns : List Int} {n : Nat}
    (F : Fr h₀ L h' m') (N : News h₀ L h' news') (hm : (D, listOf vs.toArray n) ∈ news') (ho : ∀ p ∈ own, p ∈ news') (hI : IntsAre vs ns)
    (e1 : m' (Str.ofString "quad_pos") = some (.int q tq)) (e2 : m' (Str.ofString "leftchar") = some (.int l tl)) (e3 : m' (Str.ofString "pads") = some (.int 0 tp)) (e4 : m' (Str.ofString "i") = some (.int i ti))
    (hr : ∀ z, z ≠ x → z ≠ Str.ofString "quad_pos" → z ≠ Str.ofString "leftchar" → z ≠ Str.ofString "pads" → z ≠ Str.ofString "i" → m' z = m₀ z) (hp : A2P pre ⟨q, l, i, tq, tl, tp, ti, vs, ns, n⟩) :
    InvEndN h₀ L (KstS (fun c : A2S => [(D, listOf c.vs.toArray c.n)]) A2Ps (fun c => IntsAre c.vs c.ns) x [] m₀ (fun pre c => A2P pre c) pre) own [D] s₁ { s₁ with heap := h', toks := tk } :=
  kst_end ⟨q, l, i, tq, tl, tp, ti, vs, ns, n⟩ F N (List.forall_mem_cons.mpr ⟨hm, List.forall_mem_nil _⟩) ho rfl hI
    (List.forall_mem_cons.mpr ⟨e1, List.forall_mem_cons.mpr ⟨e2, List.forall_mem_cons.mpr ⟨e3, List.forall_mem_cons.mpr ⟨e4, List.forall_mem_nil _⟩⟩⟩⟩)
    (fun z h1 h2 _ => hr z h1 (h2 _ (.head _)) (h2 _ (.tail _ (.head _))) (h2 _ (.tail _ (.tail _ (.head _)))) (h2 _ (.tail _ (.tail _ (.tail _ (.head _)))))) hp
local macro_rules | `(tactic| walk_at "call ref") => `(tactic| (k_here; k_dflt (first | (refine' ct_use (value_ct _ _ _) ?k1 ?k2 ?k3 ?k4 ?k5 ?k6 ?k7 ?k8 ?k9 ?_) | (refine' ct_use (asciibuf_ct _ _ _) ?k1 ?k2 ?k3 ?k4 ?k5 ?k6 ?k7 ?k8 ?k9 ?_) | (refine' ct_use (truth_ct _) ?k1 ?k2 ?k3 ?k4 ?k5 ?k6 ?k7 ?k8 ?k9 ?_)); (case k1 => k_asm); (case k2 => k_asm); (case k3 => k_asm); (case k4 => k_asm); (case k5 => k_asm); (case k6 => (first | exact rfl | assumption)); (case k7 => (first | (intro q hq; cases hq; done) | (exact List.forall_mem_nil _) | (k_allIn; done))); (case k8 => ktr_room); (case k9 => ktr_units); intro v9 tl9 h9 tk9 F9 N9 ne9 hp9; (first | (obtain ⟨e9, t9, e9'⟩ := hp9; subst e9 e9') | (obtain ⟨e9, e9'⟩ := hp9; subst e9 e9')); (try simp only [List.nil_append] at N9); clear ne9; (try dsimp only); (try k_fold)))
local macro_rules | `(tactic| walk_at "exec For Name Name cons nil") => `(tactic| (k_here; (rename Fr _ _ _ _ => lF'); (with_unfolding_all refine' For_invVF lF' ?k1 ?k2 ?_; (case k1 => exact rfl); (case k2 => exact rfl); k_whole)))
set_option maxHeartbeats 0 in
theorem a2b_ct (w : World) (b : Array UInt8) (t : Tok) (hne : ∀ c ∈ KBw.bInts b, c ≠ 61) (hq : (decF (KBw.bInts b)).1 = 0) (hb : b.size ≤ 100000) :
    Ct w 112 [.bytes b t] [(Str.ofString "strict_mode", .bool false)] 2 16 [] (fun tl v => tl = [] ∧ ∃ t, v = .bytes (byteArr (decF (KBw.bInts b)).2.2) t) := by
  refine' ct_intro (binds := [(Str.ofString "data", .bytes b t), (Str.ofString "strict_mode", .bool false)]) ?ho ?hcd ?hb ?hl ?hc ?hco ?hg ?hk ?hdd ?body
  case ho => k_is
  case hcd => k_is
  case hb => exact fun s X => BindsTo.of_eq rfl
  case hl => exact rfl
  case hc => decide
  case hco => exact rfl
  case hg => exact rfl
  case hk => exact rfl
  case hdd => decide
  intro p loose mean mg mb dp un gd cn cs a ccd cl outer base g L L' s B F X N T hlt hd hu
  k_fold
  k_steps
  rename Fr _ _ _ _ => lF
  rename News _ _ _ _ => lN
  with_unfolding_all refine' KStb.kst_bytes (fun c : A2S => [(_, listOf c.vs.toArray c.n)]) A2Ps (fun c => IntsAre c.vs c.ns) [] (fun pre c => A2P pre c) ⟨0, 0, 0, _, _, _, _, [], [], 0⟩ rfl rfl (by rfl) lF lN ?kf ?kk ?kp ?turn ?done
  case kf => exact .nil
  case kk => (intro p hp; simp only [List.mem_cons, List.not_mem_nil, or_false] at hp; rcases hp with rfl | rfl | rfl | rfl <;> rfl)
  case kp => exact a2p_nil ..
  case turn =>
    clear lF lN
    rintro ⟨q, l, i, tq, tl, tp, ti, vs, ns, n⟩ pre post c0 t0 u h tk own heq hlen h0 h256 hoff hI ⟨hP, hi0, hi1, hq0, hq3, hl0, hl64, hns⟩ lF lN
    have hc : c0 ≠ 61 := hne _ (by rw [heq]; simp)
    dsimp only at hoff hI hP hi0 hi1 hq0 hq3 hl0 hl64 hns lF lN
    have hvs : vs.length = ns.length := hI.length
    have hpre : pre.length < 100001 := by rw [KBw.ints_length] at hlen; omega
    show wpAny _ _ _ _ _ _
    k_fold
    k_steps
    all_goals (try (rename News _ _ _ _ => lN2; simp only [List.push_toArray] at lN2))
    all_goals with_unfolding_all refine a2b_end (by k_asm) (by k_asm) List.mem_cons_self (fun p hp => List.mem_cons_of_mem _ hp) (by first | exact ints_snoc hI | exact hI) rfl rfl rfl rfl ?_ (by first | exact a2p_skip hP hi0 hi1 (by assumption) | exact a2p_first hP hi0 hi1 (by assumption) (by assumption) | exact a2p_second hP hi0 hi1 (by assumption) (by assumption) | exact a2p_third hP hi0 hi1 (by assumption) (by assumption) | exact a2p_fourth hP hi0 hi1 (by assumption) (by assumption) (by assumption) (by assumption))
    all_goals (intro z h1 e1 e2 e3 e4; simp only [kstB, h1, e1, e2, e3, e4, if_false, List.contains_nil, Bool.false_eq_true])
  case done =>
    clear lF lN
    rintro ⟨q, l, i, tq, tl, tp, ti, vs, ns, n⟩ u h tk hlen hI ⟨hP, hi0, hi1, hq0, hq3, hl0, hl64, hns⟩ lF lN
    dsimp only at hI hP hi0 hi1 hq0 hq3 hl0 hl64 hns lF lN
    have hq00 : q = 0 := (congrArg Prod.fst hP).trans hq
    have hok := (decF_ok (KBw.bInts b)).2.2.2.2.2.2.2
    have hnse : (decF (KBw.bInts b)).2.2 = ns := (congrArg (fun z => z.2.2) hP).symm
    rw [hnse] at hok
    have hbs : (KBw.bInts b).length ≤ 100000 := by rw [KBw.ints_length]; exact hb
    subst hq00
    k_steps
    all_goals exact ⟨[], _, _, _, rfl, by k_asm, News.nil, by simp, rfl, ⟨_, congrArg (fun z => Value.bytes (byteArr z) _) hnse.symm⟩⟩
end Mine
end PartA2b
section PartEncF
namespace Mine
open PySem PySem.W PyProof.Rows
structure B2S where
  lb : Int
  lc : Int
  tb : Tok
  tc : Tok
  vs : List Value
  ns : List Int
  n : Nat
noncomputable def figs : List UInt8 := [65, 66, 67, 68, 69, 70, 71, 72, 73, 74, 75, 76, 77, 78, 79, 80, 81, 82, 83, 84, 85, 86, 87, 88, 89, 90, 97, 98, 99, 100, 101, 102, 103, 104, 105, 106, 107, 108, 109, 110, 111, 112, 113, 114, 115, 116, 117, 118, 119, 120, 121, 122, 48, 49, 50, 51, 52, 53, 54, 55, 56, 57, 43, 47]
/-- the figure for a number below 64 -/
noncomputable def fig (i : Int) : Int := ((figs.getD i.toNat 0).toNat : Int)
theorem fig_range (i : Int) : 0 ≤ fig i ∧ fig i < 256 := by
  unfold fig
  have := (figs.getD i.toNat 0).toNat_lt
  omega
theorem and63 (x : Int) : 0 ≤ Builtin.bitAnd x 63 ∧ Builtin.bitAnd x 63 < 64 := by
  have := bitAnd_range x (y := 63) (by decide)
  omega
noncomputable def encStep (st : Int × Int × List Int) (b : Int) : Int × Int × List Int :=
  let c := (st.2.1 * 256 + b) % 65536
  if st.1 = 0 then (2, c, st.2.2 ++ [fig (c / 4 % 64)]) else
  if st.1 = 2 then (4, c, st.2.2 ++ [fig (c / 16 % 64)]) else
  (0, c, st.2.2 ++ [fig (c / 64 % 64), fig (c % 64)])
noncomputable def encF (pre : List Int) : Int × Int × List Int := pre.foldl encStep (0, 0, [])
noncomputable def B2P (pre : List Int) (c : B2S) : Prop := (c.lb, c.lc, c.ns) = encF pre ∧ (c.lb = 0 ∨ c.lb = 2 ∨ c.lb = 4) ∧ 0 ≤ c.lc ∧ c.lc < 65536 ∧ c.ns.length ≤ 2 * pre.length
theorem encF_snoc (pre : List Int) (c : Int) : encF (pre ++ [c]) = encStep (encF pre) c := by
  unfold encF
  rw [List.foldl_append]; rfl
noncomputable def EncOk (st : Int × Int × List Int) : Prop := (st.1 = 0 ∨ st.1 = 2 ∨ st.1 = 4) ∧ 0 ≤ st.2.1 ∧ st.2.1 < 65536 ∧ ∀ n ∈ st.2.2, 0 ≤ n ∧ n < 256
theorem encStep_ok {st : Int × Int × List Int} (h : EncOk st) (c : Int) : EncOk (encStep st c) := by
  obtain ⟨lb, lc, ns⟩ := st
  obtain ⟨h1, h2, h3, h8⟩ := h
  have e1 := Int.emod_nonneg (lc * 256 + c) (b := 65536) (by decide)
  have e2 := Int.emod_lt_of_pos (lc * 256 + c) (b := 65536) (by decide)
  unfold encStep
  dsimp only at *
  have app : ∀ (l ms : List Int), (∀ n ∈ l, 0 ≤ n ∧ n < 256) → (∀ m ∈ ms, ∃ i, m = fig i) → ∀ n ∈ l ++ ms, 0 ≤ n ∧ n < 256 := fun l ms hl hm n hn => by
    rcases List.mem_append.mp hn with hn | hn
    · exact hl n hn
    · obtain ⟨i, rfl⟩ := hm n hn; exact fig_range i
  split
  · exact ⟨.inr (.inl rfl), e1, e2, app _ _ h8 fun m hm => ⟨_, List.mem_singleton.mp hm⟩⟩
  · split
    · exact ⟨.inr (.inr rfl), e1, e2, app _ _ h8 fun m hm => ⟨_, List.mem_singleton.mp hm⟩⟩
    · exact ⟨.inl rfl, e1, e2, app _ _ h8 fun m hm => by
        rcases List.mem_cons.mp hm with h | hm
        · exact ⟨_, h⟩
        · exact ⟨_, List.mem_singleton.mp hm⟩⟩
theorem encF_ok (pre : List Int) : EncOk (encF pre) := by
  have go : ∀ (l : List Int) (st : Int × Int × List Int), EncOk st → EncOk (l.foldl encStep st) := by
    intro l
    induction l with
    | nil => exact fun _ h => h
    | cons c r ih => exact fun st h => ih _ (encStep_ok h c)
  exact go pre _ ⟨.inl rfl, by decide, by decide, fun n hn => nomatch hn⟩
theorem encF_len (pre : List Int) : (encF pre).2.2.length ≤ 2 * pre.length := by
  have go : ∀ (l : List Int) (st : Int × Int × List Int), (l.foldl encStep st).2.2.length ≤ st.2.2.length + 2 * l.length := by
    intro l
    induction l with
    | nil => exact fun _ => Nat.le_refl _
    | cons c r ih =>
      intro st
      refine Nat.le_trans (ih _) ?_
      have : (encStep st c).2.2.length ≤ st.2.2.length + 2 := by
        unfold encStep
        dsimp only
        repeat' split
        all_goals simp
      rw [List.length_cons]; omega
  have := go pre (0, 0, [])
  rw [List.length_nil, Nat.zero_add] at this
  exact this
theorem b2p_of {pre : List Int} {lb lc : Int} {tb tc : Tok} {vs : List Value} {ns : List Int} {n : Nat} (h : encF pre = (lb, lc, ns)) : B2P pre ⟨lb, lc, tb, tc, vs, ns, n⟩ := by
  have ok := encF_ok pre
  have len := encF_len pre
  rw [h] at ok len
  exact ⟨h.symm, ok.1, ok.2.1, ok.2.2.1, len⟩
section
variable {pre : List Int} {lc c0 : Int} {tb tc : Tok} {vs : List Value} {ns : List Int} {n : Nat}
theorem enc_char (h0 : 0 ≤ lc) (hc0 : 0 ≤ c0) (hc1 : c0 < 256) : Builtin.bitAnd (Builtin.bitOr (lc * 2 ^ Int.toNat 8) c0) 65535 = (lc * 256 + c0) % 65536 := by
  rw [show Int.toNat 8 = 8 from rfl, bitOr_low 8 h0 hc0 (by omega), bitAnd_m16]
  rfl
theorem enc_fig {x : Int} (k : Int) (d : Int) (hd : (2 : Int) ^ k.toNat = d) (hd0 : 0 ≤ d) : Builtin.bitAnd (x.fdiv (2 ^ k.toNat)) 63 = x / d % 64 := by
  rw [bitAnd_m6, hd, Int.fdiv_eq_ediv_of_nonneg _ hd0]
theorem b2p_0 (hP : (0, lc, ns) = encF pre) (h0 : 0 ≤ lc) (hc0 : 0 ≤ c0) (hc1 : c0 < 256) :
    B2P (pre ++ [c0]) ⟨0 + 8 - 6, Builtin.bitAnd (Builtin.bitOr (lc * 2 ^ Int.toNat 8) c0) 65535, tb, tc, vs, ns ++ [fig (Builtin.bitAnd ((Builtin.bitAnd (Builtin.bitOr (lc * 2 ^ Int.toNat 8) c0) 65535).fdiv (2 ^ (0 + 8 - 6 : Int).toNat)) 63)], n⟩ := by
  refine b2p_of ?_
  rw [encF_snoc, ← hP, enc_char h0 hc0 hc1, enc_fig (0 + 8 - 6) 4 (by decide) (by decide)]
  rfl
theorem b2p_2 (hP : (2, lc, ns) = encF pre) (h0 : 0 ≤ lc) (hc0 : 0 ≤ c0) (hc1 : c0 < 256) :
    B2P (pre ++ [c0]) ⟨2 + 8 - 6, Builtin.bitAnd (Builtin.bitOr (lc * 2 ^ Int.toNat 8) c0) 65535, tb, tc, vs, ns ++ [fig (Builtin.bitAnd ((Builtin.bitAnd (Builtin.bitOr (lc * 2 ^ Int.toNat 8) c0) 65535).fdiv (2 ^ (2 + 8 - 6 : Int).toNat)) 63)], n⟩ := by
  refine b2p_of ?_
  rw [encF_snoc, ← hP, enc_char h0 hc0 hc1, enc_fig (2 + 8 - 6) 16 (by decide) (by decide)]
  rfl
theorem b2p_4 (hP : (4, lc, ns) = encF pre) (h0 : 0 ≤ lc) (hc0 : 0 ≤ c0) (hc1 : c0 < 256) :
    B2P (pre ++ [c0]) ⟨4 + 8 - 6 - 6, Builtin.bitAnd (Builtin.bitOr (lc * 2 ^ Int.toNat 8) c0) 65535, tb, tc, vs,
      ns ++ [fig (Builtin.bitAnd ((Builtin.bitAnd (Builtin.bitOr (lc * 2 ^ Int.toNat 8) c0) 65535).fdiv (2 ^ (4 + 8 - 6 : Int).toNat)) 63)] ++ [fig (Builtin.bitAnd ((Builtin.bitAnd (Builtin.bitOr (lc * 2 ^ Int.toNat 8) c0) 65535).fdiv (2 ^ (4 + 8 - 6 - 6 : Int).toNat)) 63)], n⟩ := by
  refine b2p_of ?_
  rw [encF_snoc, ← hP, enc_char h0 hc0 hc1, enc_fig (4 + 8 - 6) 64 (by decide) (by decide), enc_fig (4 + 8 - 6 - 6) 1 (by decide) (by decide), Int.ediv_one, List.append_assoc]
  rfl
end
end Mine
end PartEncF
section PartB2a
open PySem PySem.Spec PySem.W PyProof.Rows PySem.Calls
set_option Elab.async false
set_option maxRecDepth 100000
namespace Mine
theorem fill_B2a (w : World) : (fun (_ : Program) (_ : Frag) => True) PySem.Challenge.rw_kq0062_01.row.prog (hd.heap_1 w.params) := by
  k_fill
  trivial
theorem fig_item {prog : Program} {w : World} {A : Around} {E : Value → Shared → Prop} {s : Shared} {value slice : Expr} {i : Int} {t u : Tok} {Q : Value → Shared → Prop} (hi : 0 ≤ i ∧ i < 64) (h : Q (.int (fig i) s.toks) { s with toks := s.toks + 1 })
    (hs : subscripted slice false (.bytes figs.toArray t) (.int i u) = operate [.bytes figs.toArray t, .int i u] (getItem (.bytes figs.toArray t) (.int i u)) := by with_unfolding_all rfl)
    (ht : ∀ r, letTemporaryGo value (.bytes figs.toArray t) r = pure () := by intro _; with_unfolding_all rfl) :
    wpAny (model prog w) A (subscriptTail value slice (.bytes figs.toArray t) (.int i u)) Q E s :=
  subscriptTail_builtin (typeIs_bytes _ _ _) FB.slot_bytes_getitem.lookup (getItem_bytes (by decide) hi.1 (by show i < 64; exact hi.2) h) hs ht
noncomputable abbrev B2Ps (c : B2S) : List (Str × Value) := [(Str.ofString "leftchar", .int c.lc c.tc), (Str.ofString "leftbits", .int c.lb c.tb)]
local macro_rules | `(tactic| walk_at "subscriptTail") => `(tactic| (k_here; (with_reducible show wpAny _ _ (subscriptTail _ _ (Value.bytes _ _) (Value.int _ _)) _ _ _); k_dflt (refine fig_item (and63 _) ?_)))
theorem b2a_end {h₀ : Heap} {D L : Addr} {x : Str} {m₀ m' : Str → Option Value} {pre : List Int} {own news' : Led} {s₁ : Shared} {h' : Heap} {tk : Nat} {lb lc : Int} {tb tc : Tok} {vs : List Value} {ns : List Int} {n : Nat}
    (F : Fr h₀ L h' m') (N : News h₀ L h' news') (hm : (D, listOf vs.toArray n) ∈ news') (ho : ∀ p ∈ own, p ∈ news') (hI : IntsAre vs ns)
    (e1 : m' (Str.ofString "leftchar") = some (.int lc tc)) (e2 : m' (Str.ofString "leftbits") = some (.int lb tb))
    (hr : ∀ z, z ≠ x → z ≠ Str.ofString "leftchar" → z ≠ Str.ofString "leftbits" → m' z = m₀ z) (hp : B2P pre ⟨lb, lc, tb, tc, vs, ns, n⟩) :
    InvEndN h₀ L (KstS (fun c : B2S => [(D, listOf c.vs.toArray c.n)]) B2Ps (fun c => IntsAre c.vs c.ns) x [] m₀ (fun pre c => B2P pre c) pre) own [D] s₁ { s₁ with heap := h', toks := tk } :=
  kst_end ⟨lb, lc, tb, tc, vs, ns, n⟩ F N (List.forall_mem_cons.mpr ⟨hm, List.forall_mem_nil _⟩) ho rfl hI
    (List.forall_mem_cons.mpr ⟨e1, List.forall_mem_cons.mpr ⟨e2, List.forall_mem_nil _⟩⟩)
    (fun z h1 h2 _ => hr z h1 (h2 _ (.head _)) (h2 _ (.tail _ (.head _)))) hp
local macro_rules | `(tactic| walk_at "call ref") => `(tactic| (k_here; k_dflt (first | (refine' ct_use (value_ct _ _ _) ?k1 ?k2 ?k3 ?k4 ?k5 ?k6 ?k7 ?k8 ?k9 ?_) | (refine' ct_use (buf_ct _ _ _) ?k1 ?k2 ?k3 ?k4 ?k5 ?k6 ?k7 ?k8 ?k9 ?_) | (refine' ct_use (truth_ct _) ?k1 ?k2 ?k3 ?k4 ?k5 ?k6 ?k7 ?k8 ?k9 ?_)); (case k1 => k_asm); (case k2 => k_asm); (case k3 => k_asm); (case k4 => k_asm); (case k5 => k_asm); (case k6 => (first | exact rfl | assumption)); (case k7 => (first | (intro q hq; cases hq; done) | (exact List.forall_mem_nil _) | (k_allIn; done))); (case k8 => ktr_room); (case k9 => ktr_units); intro v9 tl9 h9 tk9 F9 N9 ne9 hp9; (first | (obtain ⟨e9, t9, e9'⟩ := hp9; subst e9 e9') | (obtain ⟨e9, e9'⟩ := hp9; subst e9 e9')); (try simp only [List.nil_append] at N9); clear ne9; (try dsimp only); (try k_fold)))
local macro_rules | `(tactic| walk_at "exec For Name Name cons nil") => `(tactic| (k_here; (rename Fr _ _ _ _ => lF'); (with_unfolding_all refine' For_invVF lF' ?k1 ?k2 ?_; (case k1 => exact rfl); (case k2 => exact rfl); k_whole)))
set_option maxHeartbeats 0 in
theorem b2a_ct (w : World) (b : Array UInt8) (t : Tok) (hb : b.size ≤ 40000) (hq : (encF (KBw.bInts b)).1 = 0) :
    Ct w 120 [.bytes b t] [(Str.ofString "newline", .bool false)] 2 16 [] (fun tl v => tl = [] ∧ ∃ t, v = .bytes (byteArr (encF (KBw.bInts b)).2.2) t) := by
  refine' ct_intro (binds := [(Str.ofString "data", .bytes b t), (Str.ofString "newline", .bool false)]) ?ho ?hcd ?hb ?hl ?hc ?hco ?hg ?hk ?hdd ?body
  case ho => k_is
  case hcd => k_is
  case hb => exact fun s X => BindsTo.of_eq rfl
  case hl => exact rfl
  case hc => decide
  case hco => exact rfl
  case hg => exact rfl
  case hk => exact rfl
  case hdd => decide
  intro p loose mean mg mb dp un gd cn cs a ccd cl outer base g L L' s B F X N T hlt hd hu
  k_fold
  k_steps
  rename Fr _ _ _ _ => lF
  rename News _ _ _ _ => lN
  with_unfolding_all refine' KStb.kst_bytes (fun c : B2S => [(_, listOf c.vs.toArray c.n)]) B2Ps (fun c => IntsAre c.vs c.ns) [] (fun pre c => B2P pre c) ⟨0, 0, _, _, [], [], 0⟩ rfl rfl (by rfl) lF lN ?kf ?kk ?kp ?turn ?done
  case kf => exact .nil
  case kk => (intro p hp; simp only [List.mem_cons, List.not_mem_nil, or_false] at hp; rcases hp with rfl | rfl <;> rfl)
  case kp => exact b2p_of rfl
  case turn =>
    clear lF lN
    rintro ⟨lb, lc, tb, tc, vs, ns, n⟩ pre post c0 t0 u h tk own heq hlen h0 h256 hoff hI ⟨hP, hlb, hl0, hl1, hns⟩ lF lN
    dsimp only [B2Ps] at hoff hI hP hlb hl0 hl1 hns lF lN
    have hvs : vs.length = ns.length := hI.length
    have hpre : pre.length < 100001 := by rw [KBw.ints_length] at hlen; omega
    rcases hlb with rfl | rfl | rfl
    all_goals (show wpAny _ _ _ _ _ _)
    all_goals k_fold
    all_goals k_steps
    all_goals (try (rename News _ _ _ _ => lN2; simp only [List.push_toArray] at lN2))
    all_goals with_unfolding_all refine b2a_end (by k_asm) (by k_asm) List.mem_cons_self (fun p hp => List.mem_cons_of_mem _ hp) (by first | exact ints_snoc (ints_snoc hI) | exact ints_snoc hI) rfl rfl ?_ (by first | exact b2p_0 hP hl0 h0 h256 | exact b2p_2 hP hl0 h0 h256 | exact b2p_4 hP hl0 h0 h256)
    all_goals (intro z h1 e1 e2; simp only [kstB, h1, e1, e2, if_false, List.contains_nil, Bool.false_eq_true])
  case done =>
    clear lF lN
    rintro ⟨lb, lc, tb, tc, vs, ns, n⟩ u h tk hlen hI ⟨hP, hlb, hl0, hl1, hns⟩ lF lN
    dsimp only [B2Ps] at hI hP hlb hl0 hl1 hns lF lN
    have hq00 : lb = 0 := (congrArg Prod.fst hP).trans hq
    have hok := (encF_ok (KBw.bInts b)).2.2.2
    have hnse : (encF (KBw.bInts b)).2.2 = ns := (congrArg (fun z => z.2.2) hP).symm
    rw [hnse] at hok
    have hbs : (KBw.bInts b).length ≤ 40000 := by rw [KBw.ints_length]; exact hb
    subst hq00
    k_steps
    all_goals exact ⟨[], _, _, _, rfl, by k_asm, News.nil, by simp, rfl, ⟨_, congrArg (fun z => Value.bytes (byteArr z) _) hnse.symm⟩⟩
end Mine
end PartB2a
section PartB64b
open PySem PySem.Spec PySem.W PyProof.Rows PySem.Calls
set_option Elab.async false
set_option maxRecDepth 100000
namespace Mine
theorem fill_B64b (w : World) : (fun (_ : Program) (_ : Frag) => True) PySem.Challenge.rw_kq0062_01.row.prog (hd.heap_1 w.params) := by
  k_fill
  trivial
section
variable {prog : Program} {w : World} {M : Model} {A : Around} {E : Value → Shared → Prop} {s : Shared} {b c : Array UInt8} {t tc : Tok}
theorem method_translate {pl : Sem Bool} {Q : Value × List Value → Shared → Prop} (h : Q (.builtin "bytes.translate", [.bytes b t]) s) : wpAny M A (getMethod (.bytes b t) "translate" pl) Q E s := by
  with_reducible exact KBd.method_of (.bytes b t) (typeIs_bytes _ _ _) MF.slot_bytes_translate MF.type_bytes_translate KBd.noRef h
theorem call_translate {Q : Value → Shared → Prop} (ht : c.size = 256) (hb : b.size ≤ 100000) (h : ∀ t' k, Q (.bytes (swapped c b) t') { s with toks := k }) :
    wpAny (model prog w) A (call (.builtin "bytes.translate") [.bytes b t, .bytes c tc]) Q E s :=
  call_meets MF.slot_bytes_translate (typeIs_bytes _ _ _) MF.entry_bytes_translate (MF.args_bytes_translate_2 _ _) (meets_translate ht hb) h
theorem mk_plain : plainId "bytes.maketrans" = true := by decide +kernel
theorem mk_entry : entryFor table "bytes.maketrans" = some Builtin.«bytes.maketrans» := entryFor_of_tree (by kernel_rfl)
theorem mk_check (a b : Value) : checkBuiltinCall "bytes.maketrans" ⟨[a, b], []⟩ = pure () := by kernel_rfl
theorem call_maketrans {Q : Value → Shared → Prop} (hs : b.size = c.size) (h : ∀ t' k, Q (.bytes (transTable b c) t') { s with toks := k }) :
    wpAny (model prog w) A (call (.builtin "bytes.maketrans") [.bytes b t, .bytes c tc]) Q E s :=
  wpAny_call (codeAny_call_builtin mk_plain mk_entry (wpAny_of_eq (mk_check _ _) (meets_maketrans hs prog w A (wants Q E) s h)))
theorem method_maketrans {K : Frag} {h₀ : Heap} {L : Addr} {m : PySem.Str → Option Value} {pl : Sem Bool} {Q : Value × List Value → Shared → Prop} (F : Fr h₀ L s.heap m) (X₀ : K.In h₀)
    (e : findCls K (.type "bytes") (.type "type") (PySem.Str.ofString "maketrans") = some (.val (.builtin "bytes.maketrans"))) (h : Q (.builtin "bytes.maketrans", []) { s with toks := s.toks + 1 }) :
    wpAny (model prog w) A (getMethod (.type "bytes") (PySem.Str.ofString "maketrans") pl) Q E s := by
  have X := X₀.keeps F.keep
  have hstub : opaqueClassAbove (.type "bytes") = pure none := by unfold opaqueClassAbove; dsimp only; rw [show Manifest.isStub "bytes" = false by decide +kernel]; rfl
  have ht : typeOf (.type "bytes") = pure (.type "type") := by first | rfl | kernel_rfl
  have L0 : Looks (model prog w) s.heap (typeOf (.type "bytes")) (.type "type") := Looks.of_pure ht
  have hg : findIn K (.type "type") "__getattribute__" = some (some (.builtin "type.__getattribute__")) := type_tga
  unfold getMethod specialOf
  refine wpAny_bind (wpAny_bind (L0.here ((looks_findIn X hg).here ?_)))
  dsimp only
  rw [if_pos canon_tga]
  refine wpAny_bind (wpAny_mono (Q := fun v => Q (v, [])) (E := E) ?_ (fun _ _ z => wpAny_pure z) fun _ _ z => z)
  have LO : Looks (model prog w) s.heap (opaqueClassAbove (.type "bytes")) none := Looks.of_pure hstub
  refine cls_open X LO L0 hg (looks_hook X (r := none) (by rfl)) (by show subIn K _ _ = _; rfl) e ?_
  refine wpAny_pure ?_
  dsimp only
  rw [handedOut_of (by decide +kernel)]
  exact wpAny_pure h
end
local macro_rules | `(tactic| walk_at "getMethod type:bytes") => `(tactic| (k_here; k_dflt (refine' method_maketrans ?F ?X ?e ?_; (case F => k_asm); (case X => k_asm); (case e => k_is))))
local macro_rules | `(tactic| walk_at "call builtin:bytes.maketrans") => `(tactic| (k_here; k_dflt (refine call_maketrans rfl ?_); intro _ _))
local macro_rules | `(tactic| walk_at "call builtin:bytes.translate") => `(tactic| (k_here; k_dflt (refine call_translate (transTable_size _ _) (by assumption) ?_); intro _ _))
local macro_rules | `(tactic| walk_at "getMethod bytes") => `(tactic| (k_here; with_reducible refine method_translate ?_))
local macro_rules | `(tactic| walk_at "call ref") => `(tactic| (k_here; k_dflt (first | (refine' ct_use (b2a_ct _ _ _ ?q1 ?q2) ?k1 ?k2 ?k3 ?k4 ?k5 ?k6 ?k7 ?k8 ?k9 ?_) | (refine' ct_use (a2b_ct _ _ _ ?q1 ?q2 ?q3) ?k1 ?k2 ?k3 ?k4 ?k5 ?k6 ?k7 ?k8 ?k9 ?_) | (refine' ct_use (frombytes_ct _ _ _ ?q1 ?q2) ?k1 ?k2 ?k3 ?k4 ?k5 ?k6 ?k7 ?k8 ?k9 ?_) | (refine' ct_use (frombytes_b_ct _ _ _) ?k1 ?k2 ?k3 ?k4 ?k5 ?k6 ?k7 ?k8 ?k9 ?_)); (case k1 => k_asm); (case k2 => k_asm); (case k3 => k_asm); (case k4 => k_asm); (case k5 => k_asm); (case k6 => (first | exact rfl | assumption)); (case k7 => (first | (intro q hq; cases hq; done) | (exact List.forall_mem_nil _) | (k_allIn; done))); (case k8 => ktr_room); (case k9 => ktr_units); (try (case q1 => assumption)); (try (case q2 => assumption)); (try (case q3 => assumption)); intro v9 tl9 h9 tk9 F9 N9 ne9 hp9; (first | (obtain ⟨e9, t9, e9'⟩ := hp9; subst e9 e9') | (obtain ⟨e9, e9'⟩ := hp9; subst e9 e9')); (try simp only [List.nil_append] at N9); clear ne9; (try dsimp only); (try k_fold)))
set_option maxHeartbeats 0 in
theorem b64encode_ct (w : World) (b : Array UInt8) (t ta : Tok) (hb : b.size ≤ 40000) (hq : (encF (KBw.bInts b)).1 = 0) :
    Ct w 128 [.bytes b t, .bytes #[46, 10] ta] [] 4 32 [] (fun tl v => tl = [] ∧ ∃ t, v = .bytes (swapped (transTable #[43, 47] #[46, 10]) (byteArr (encF (KBw.bInts b)).2.2)) t) := by
  have hes : (byteArr (encF (KBw.bInts b)).2.2).size ≤ 100000 := by
    have := encF_len (KBw.bInts b)
    rw [KBw.ints_length] at this
    rw [byteArr_size]; omega
  refine' ct_intro (binds := [(Str.ofString "s", .bytes b t), (Str.ofString "altchars", .bytes #[46, 10] ta)]) ?ho ?hcd ?hb ?hl ?hc ?hco ?hg ?hk ?hdd ?body
  case ho => k_is
  case hcd => k_is
  case hb => exact fun s X => BindsTo.of_defaults rfl (X _ _ (by k_is)) rfl rfl rfl
  case hl => exact rfl
  case hc => decide
  case hco => exact rfl
  case hg => exact rfl
  case hk => exact rfl
  case hdd => decide
  intro p loose mean mg mb dp un gd cn cs a ccd cl outer base g L L' s B F X N T hlt hd hu
  k_fold
  k_steps
  all_goals exact ⟨[], _, _, _, rfl, by k_asm, by k_asm, by simp, rfl, ⟨_, rfl⟩⟩
noncomputable def figures (x : Str) : Array UInt8 := swapped (transTable #[46, 10] #[43, 47]) (asBytes x)
set_option maxHeartbeats 0 in
theorem b64decode_ct (w : World) (x : Str) (t ta : Tok) (hx : x.cps.size ≤ 100000) (hc : ∀ c ∈ x.cps.toList, c < 128) (hne : ∀ c ∈ KBw.bInts (figures x), c ≠ 61) (hq : (decF (KBw.bInts (figures x))).1 = 0) :
    Ct w 136 [.str x t, .bytes #[46, 10] ta] [] 5 40 [] (fun tl v => tl = [] ∧ ∃ t, v = .bytes (byteArr (decF (KBw.bInts (figures x))).2.2) t) := by
  have hsz : (asBytes x).size ≤ 100000 := by rw [asBytes_size]; exact hx
  have hfs : (figures x).size ≤ 100000 := by unfold figures swapped; rw [Array.size_map]; exact hsz
  unfold figures at hne hq hfs ⊢
  refine' ct_intro (binds := [(Str.ofString "s", .str x t), (Str.ofString "altchars", .bytes #[46, 10] ta), (Str.ofString "validate", .bool false)]) ?ho ?hcd ?hb ?hl ?hc ?hco ?hg ?hk ?hdd ?body
  case ho => k_is
  case hcd => k_is
  case hb => exact fun s X => BindsTo.of_defaults rfl (X _ _ (by k_is)) rfl rfl rfl
  case hl => exact rfl
  case hc => decide
  case hco => exact rfl
  case hg => exact rfl
  case hk => exact rfl
  case hdd => decide
  intro p loose mean mg mb dp un gd cn cs a ccd cl outer base g L L' s B F X N T hlt hd hu
  k_fold
  k_steps
  all_goals exact ⟨[], _, _, _, rfl, by k_asm, by k_asm, by simp, rfl, ⟨_, rfl⟩⟩
end Mine
end PartB64b
section PartSent
set_option maxRecDepth 100000
namespace Mine
open PySem PySem.W PyProof.Rows

/-- a sign that base64 lets through, as a figure of its own -/
noncomputable def okc (c : Nat) : Bool := (48 ≤ c && c ≤ 57) || (65 ≤ c && c ≤ 90) || (97 ≤ c && c ≤ 122) || c == 46 || c == 10
/-- the sign as the decoder's figure -/
noncomputable def swi (c : Nat) : Nat := if c = 46 then 43 else if c = 10 then 47 else if c = 43 then 43 else if c = 47 then 47 else c
noncomputable def valOf (c : Nat) : Int := b64val (swi c)
/-- the sign that the coder's figure is turned into -/
noncomputable def swo (c : Nat) : Nat := if c = 43 then 46 else if c = 47 then 10 else c

theorem okc_lt {c : Nat} (h : okc c = true) : c < 128 := by
  unfold okc at h; simp at h; omega
theorem small_cases {P : Nat → Prop} (h : ∀ c : _root_.Fin 128, P c) {c : Nat} (hc : c < 128) : P c := h ⟨c, hc⟩
theorem val_range {c : Nat} (h : okc c = true) : 0 ≤ valOf c ∧ valOf c < 64 := by
  refine small_cases (P := fun c => okc c = true → 0 ≤ valOf c ∧ valOf c < 64) ?_ (okc_lt h) h
  decide +kernel
theorem back_val {c : Nat} (h : okc c = true) : swo (fig (valOf c)).toNat = c ∧ (fig (valOf c)) < 128 := by
  refine small_cases (P := fun c => okc c = true → swo (fig (valOf c)).toNat = c ∧ (fig (valOf c)) < 128) ?_ (okc_lt h) h
  decide +kernel
theorem val_13 : b64val (13 : Int) = 64 := by decide

noncomputable def tabIn : Array UInt8 := transTable #[46, 10] #[43, 47]
noncomputable def tabOut : Array UInt8 := transTable #[43, 47] #[46, 10]
theorem tabIn_at {c : Nat} (h : c < 128) : (tabIn.getD c.toUInt8.toNat c.toUInt8).toNat = swi c := by
  refine small_cases (P := fun c => (tabIn.getD c.toUInt8.toNat c.toUInt8).toNat = swi c) ?_ h
  decide +kernel
theorem tabOut_at {c : Nat} (h : c < 128) : (tabOut.getD c.toUInt8.toNat c.toUInt8).toNat = swo c := by
  refine small_cases (P := fun c => (tabOut.getD c.toUInt8.toNat c.toUInt8).toNat = swo c) ?_ h
  decide +kernel

/-- four figures are three octets -/
noncomputable def dec4 : List Int → List Int
  | a :: b :: c :: d :: r => (a * 4 + b / 16) :: (b % 16 * 16 + c / 4) :: (c % 4 * 64 + d) :: dec4 r
  | _ => []
theorem decStep_val {st : Int × Int × List Int} {c : Int} (h : b64val c ≥ 64) : decStep st c = st := by unfold decStep; dsimp only; rw [if_pos h]
theorem dec_four {ns : List Int} {a b c d : Int} (ha : b64val a < 64) (hb : b64val b < 64) (hc : b64val c < 64) (hd : b64val d < 64) :
    [a, b, c, d].foldl decStep (0, 0, ns) = (0, 0, ns ++ [b64val a * 4 + b64val b / 16, b64val b % 16 * 16 + b64val c / 4, b64val c % 4 * 64 + b64val d]) := by
  simp only [List.foldl_cons, List.foldl_nil]
  have e1 : decStep (0, 0, ns) a = (1, b64val a, ns) := by unfold decStep; dsimp only; rw [if_neg (by omega), if_pos rfl]
  have e2 : decStep (1, b64val a, ns) b = (2, b64val b % 16, ns ++ [b64val a * 4 + b64val b / 16]) := by unfold decStep; dsimp only; rw [if_neg (by omega), if_neg (by decide), if_pos rfl]
  have e3 : decStep (2, b64val b % 16, ns ++ [b64val a * 4 + b64val b / 16]) c = (3, b64val c % 4, ns ++ [b64val a * 4 + b64val b / 16] ++ [b64val b % 16 * 16 + b64val c / 4]) := by
    unfold decStep; dsimp only; rw [if_neg (by omega), if_neg (by decide), if_neg (by decide), if_pos rfl]
  have e4 : decStep (3, b64val c % 4, ns ++ [b64val a * 4 + b64val b / 16] ++ [b64val b % 16 * 16 + b64val c / 4]) d = (0, 0, ns ++ [b64val a * 4 + b64val b / 16] ++ [b64val b % 16 * 16 + b64val c / 4] ++ [b64val c % 4 * 64 + b64val d]) := by
    unfold decStep; dsimp only; rw [if_neg (by omega), if_neg (by decide), if_neg (by decide), if_neg (by decide)]
  rw [e1, e2, e3, e4]
  simp [List.append_assoc]
theorem dec_all : ∀ (k : Nat) (l ns : List Int), l.length = 4 * k → (∀ c ∈ l, b64val c < 64) → l.foldl decStep (0, 0, ns) = (0, 0, ns ++ dec4 (l.map b64val))
  | 0, l, ns, h, _ => by
    have : l = [] := List.length_eq_zero_iff.mp (by omega)
    subst this
    simp [dec4]
  | k + 1, a :: b :: c :: d :: r, ns, h, hv => by
    have e := dec_four (ns := ns) (hv a (by simp)) (hv b (by simp)) (hv c (by simp)) (hv d (by simp))
    rw [show a :: b :: c :: d :: r = [a, b, c, d] ++ r from rfl, List.foldl_append, e, dec_all k r _ (by simp at h; omega) (fun x hx => hv x (by simp [hx]))]
    simp [dec4, List.append_assoc]
  | k + 1, [], _, h, _ => by simp at h
  | k + 1, [_], _, h, _ => by simp at h; omega
  | k + 1, [_, _], _, h, _ => by simp at h; omega
  | k + 1, [_, _, _], _, h, _ => by simp at h; omega
theorem dec_skip : ∀ (l : List Int) (st : Int × Int × List Int), l.foldl decStep st = (l.filter fun c => decide (b64val c < 64)).foldl decStep st
  | [], _ => rfl
  | c :: r, st => by
    rw [List.foldl_cons, List.filter_cons]
    by_cases h : b64val c < 64
    · rw [if_pos (by simpa using h), List.foldl_cons, dec_skip r]
    · rw [if_neg (by simpa using h), decStep_val (by omega), dec_skip r]

theorem enc_three {ns : List Int} {lc a b c d : Int} (h0 : 0 ≤ lc) (ha : 0 ≤ a ∧ a < 64) (hb : 0 ≤ b ∧ b < 64) (hc : 0 ≤ c ∧ c < 64) (hd : 0 ≤ d ∧ d < 64) :
    ∃ lc', 0 ≤ lc' ∧ [a * 4 + b / 16, b % 16 * 16 + c / 4, c % 4 * 64 + d].foldl encStep (0, lc, ns) = (0, lc', ns ++ [fig a, fig b, fig c, fig d]) := by
  simp only [List.foldl_cons, List.foldl_nil]
  have e1 : encStep (0, lc, ns) (a * 4 + b / 16) = (2, (lc * 256 + (a * 4 + b / 16)) % 65536, ns ++ [fig a]) := by
    unfold encStep; dsimp only; rw [if_pos rfl]
    have : (lc * 256 + (a * 4 + b / 16)) % 65536 / 4 % 64 = a := by omega
    rw [this]
  have k1 : ∃ m, (lc * 256 + (a * 4 + b / 16)) % 65536 = m * 256 + (a * 4 + b / 16) ∧ 0 ≤ m := ⟨(lc * 256 + (a * 4 + b / 16)) % 65536 / 256, by omega, by omega⟩
  obtain ⟨m, hm, hm0⟩ := k1
  rw [e1, hm]
  have e2 : encStep (2, m * 256 + (a * 4 + b / 16), ns ++ [fig a]) (b % 16 * 16 + c / 4) = (4, ((m * 256 + (a * 4 + b / 16)) * 256 + (b % 16 * 16 + c / 4)) % 65536, ns ++ [fig a] ++ [fig b]) := by
    unfold encStep; dsimp only; rw [if_neg (by decide), if_pos rfl]
    have : ((m * 256 + (a * 4 + b / 16)) * 256 + (b % 16 * 16 + c / 4)) % 65536 / 16 % 64 = b := by omega
    rw [this]
  have k2 : ∃ m', ((m * 256 + (a * 4 + b / 16)) * 256 + (b % 16 * 16 + c / 4)) % 65536 = m' * 256 + (b % 16 * 16 + c / 4) ∧ 0 ≤ m' := ⟨((m * 256 + (a * 4 + b / 16)) * 256 + (b % 16 * 16 + c / 4)) % 65536 / 256, by omega, by omega⟩
  obtain ⟨m', hm', hm0'⟩ := k2
  rw [e2, hm']
  refine ⟨((m' * 256 + (b % 16 * 16 + c / 4)) * 256 + (c % 4 * 64 + d)) % 65536, by omega, ?_⟩
  unfold encStep; dsimp only; rw [if_neg (by decide), if_neg (by decide)]
  have e3 : ((m' * 256 + (b % 16 * 16 + c / 4)) * 256 + (c % 4 * 64 + d)) % 65536 / 64 % 64 = c := by omega
  have e4 : ((m' * 256 + (b % 16 * 16 + c / 4)) * 256 + (c % 4 * 64 + d)) % 65536 % 64 = d := by omega
  rw [e3, e4]
  simp [List.append_assoc]
theorem enc_all : ∀ (k : Nat) (l ns : List Int) (lc : Int), l.length = 4 * k → 0 ≤ lc → (∀ c ∈ l, 0 ≤ c ∧ c < 64) → ∃ lc', 0 ≤ lc' ∧ (dec4 l).foldl encStep (0, lc, ns) = (0, lc', ns ++ l.map fig)
  | 0, l, ns, lc, h, h0, _ => by
    have : l = [] := List.length_eq_zero_iff.mp (by omega)
    subst this
    exact ⟨lc, h0, by simp [dec4]⟩
  | k + 1, a :: b :: c :: d :: r, ns, lc, h, h0, hv => by
    obtain ⟨lc', h1, e⟩ := enc_three (ns := ns) h0 (hv a (by simp)) (hv b (by simp)) (hv c (by simp)) (hv d (by simp))
    obtain ⟨lc'', h2, e'⟩ := enc_all k r (ns ++ [fig a, fig b, fig c, fig d]) lc' (by simp at h; omega) h1 (fun x hx => hv x (by simp [hx]))
    refine ⟨lc'', h2, ?_⟩
    rw [show dec4 (a :: b :: c :: d :: r) = [a * 4 + b / 16, b % 16 * 16 + c / 4, c % 4 * 64 + d] ++ dec4 r from rfl, List.foldl_append, e, e']
    simp [List.append_assoc]
  | k + 1, [], _, _, h, _, _ => by simp at h
  | k + 1, [_], _, _, h, _, _ => by simp at h; omega
  | k + 1, [_, _], _, _, h, _, _ => by simp at h; omega
  | k + 1, [_, _, _], _, _, h, _, _ => by simp at h; omega

theorem bints_of_swapped {t b : Array UInt8} {l : List Nat} {f : Nat → Nat} (hb : b = (l.map fun c => c.toUInt8).toArray) (hf : ∀ c ∈ l, (t.getD c.toUInt8.toNat c.toUInt8).toNat = f c) :
    KBw.bInts (swapped t b) = l.map fun c => ((f c : Nat) : Int) := by
  subst hb
  unfold KBw.bInts swapped
  simp only [Array.toList_map, List.map_map]
  exact List.map_congr_left fun c hc => by simpa using congrArg (fun n : Nat => (n : Int)) (hf c hc)
theorem bints_figures {x : Str} (h : ∀ c ∈ x.cps.toList, c < 128) : KBw.bInts (swapped tabIn (asBytes x)) = x.cps.toList.map fun c => ((swi c : Nat) : Int) :=
  bints_of_swapped rfl fun c hc => tabIn_at (h c hc)
theorem bints_byteArr {ns : List Int} (h : ∀ n ∈ ns, 0 ≤ n ∧ n < 256) : KBw.bInts (byteArr ns) = ns := by
  unfold KBw.bInts byteArr
  simp only [List.map_map]
  conv => rhs; rw [← List.map_id ns]
  refine List.map_congr_left fun n hn => ?_
  have := h n hn
  simp only [Function.comp, id]
  have e : n.toNat % 256 = n.toNat := Nat.mod_eq_of_lt (by omega)
  simp [e]
  omega

/-- signs, some of them returns: what the two base64 steps make of them -/
theorem sent_main {l : List Nat} {k : Nat} {z : Str} (hz : z.cps.toList.filter (· != 13) = l) (hl : l.length = 4 * k) (hok : ∀ c ∈ l, okc c = true) :
    (∀ c ∈ z.cps.toList, c < 128) ∧ (∀ c ∈ KBw.bInts (swapped tabIn (asBytes z)), c ≠ 61) ∧ (decF (KBw.bInts (swapped tabIn (asBytes z)))).1 = 0 ∧
      (byteArr (decF (KBw.bInts (swapped tabIn (asBytes z)))).2.2).size ≤ z.cps.size ∧
      (encF (KBw.bInts (byteArr (decF (KBw.bInts (swapped tabIn (asBytes z)))).2.2))).1 = 0 ∧
      KBw.bInts (swapped tabOut (byteArr (encF (KBw.bInts (byteArr (decF (KBw.bInts (swapped tabIn (asBytes z)))).2.2))).2.2)) = l.map fun (c : Nat) => (c : Int) := by
  have hmem : ∀ c ∈ z.cps.toList, c = 13 ∨ okc c = true := fun c hc => by
    by_cases h13 : c = 13
    · exact .inl h13
    · refine .inr (hok c ?_)
      rw [← hz]
      exact List.mem_filter.mpr ⟨hc, by simpa using h13⟩
  have h128 : ∀ c ∈ z.cps.toList, c < 128 := fun c hc => by
    rcases hmem c hc with e | e
    · omega
    · exact okc_lt e
  have hb := bints_figures h128
  have e13 : swi 13 = 13 := by decide
  have hdec : decF (z.cps.toList.map fun c => ((swi c : Nat) : Int)) = (0, 0, dec4 (l.map valOf)) := by
    unfold decF
    rw [dec_skip]
    have ef : (z.cps.toList.map fun c => ((swi c : Nat) : Int)).filter (fun c => decide (b64val c < 64)) = l.map fun c => ((swi c : Nat) : Int) := by
      rw [← hz, List.filter_map]
      congr 1
      refine List.filter_congr fun c hc => ?_
      rcases hmem c hc with e | e
      · subst e; decide
      · have := val_range e
        have hne : c ≠ 13 := by rintro rfl; revert e; decide
        have h1 : decide (b64val ((swi c : Nat) : Int) < 64) = true := decide_eq_true this.2
        have h2 : (c != 13) = true := by simpa using hne
        rw [h2]
        exact h1
    rw [ef, dec_all k _ [] (by simpa using hl) (fun c hc => by
      obtain ⟨d, hd, rfl⟩ := List.mem_map.mp hc
      exact (val_range (hok d hd)).2)]
    simp only [List.nil_append, List.map_map]
    rfl
  have hoct : ∀ n ∈ dec4 (l.map valOf), 0 ≤ n ∧ n < 256 := by
    have := (decF_ok (z.cps.toList.map fun c => ((swi c : Nat) : Int))).2.2.2.2.2.2.2
    rw [hdec] at this
    exact this
  have hvals : ∀ c ∈ l.map valOf, 0 ≤ c ∧ c < 64 := fun c hc => by
    obtain ⟨d, hd, rfl⟩ := List.mem_map.mp hc
    exact val_range (hok d hd)
  obtain ⟨lc, _, henc⟩ := enc_all k (l.map valOf) [] 0 (by simpa using hl) (Int.le_refl _) hvals
  rw [hb, hdec]
  dsimp only
  rw [bints_byteArr hoct]
  have henc' : encF (dec4 (l.map valOf)) = (0, lc, [] ++ (l.map valOf).map fig) := henc
  rw [henc']
  dsimp only
  refine ⟨h128, fun c hc => ?_, rfl, ?_, rfl, ?_⟩
  · obtain ⟨d, hd, rfl⟩ := List.mem_map.mp hc
    rcases hmem d hd with e | e
    · subst e; decide
    · have := small_cases (P := fun c => okc c = true → ((swi c : Nat) : Int) ≠ 61) (by decide +kernel) (okc_lt e) e
      exact this
  · rw [byteArr_size]
    have h1 := decF_len (z.cps.toList.map fun c => ((swi c : Nat) : Int))
    rw [hdec, List.length_map] at h1
    simpa using h1
  · have e1 : byteArr ([] ++ (l.map valOf).map fig) = ((l.map fun c => (fig (valOf c)).toNat).map fun c => c.toUInt8).toArray := by
      unfold byteArr
      simp [List.map_map, Function.comp_def]
    rw [bints_of_swapped (l := l.map fun c => (fig (valOf c)).toNat) (f := swo) e1 fun c hc => ?_]
    · rw [List.map_map]
      refine List.map_congr_left fun c hc => ?_
      simp only [Function.comp]
      rw [(back_val (hok c hc)).1]
    · obtain ⟨d, hd, rfl⟩ := List.mem_map.mp hc
      have := (back_val (hok d hd)).2
      have h2 := fig_range (valOf d)
      exact tabOut_at (by omega)
end Mine
end PartSent
section PartSentP
set_option maxRecDepth 100000
namespace Mine
open PySem PySem.W PyProof.Rows

theorem dots_crlf : ∀ (l : List Nat) (b : Bool), 13 ∉ l → (dots b (crlf l)).filter (· != 13) = dots b l
  | [], _, _ => rfl
  | c :: r, b, h => by
    have hr : 13 ∉ r := fun m => h (List.mem_cons_of_mem _ m)
    have hc : c ≠ 13 := fun e => h (e ▸ List.mem_cons_self)
    unfold crlf
    by_cases h10 : c = 10
    · subst h10
      have e : dots b (13 :: 10 :: crlf r) = 13 :: 10 :: dots true (crlf r) := by simp [dots]
      have e2 : dots b (10 :: r) = 10 :: dots true r := by simp [dots]
      rw [if_pos rfl, e, e2, List.filter_cons, if_neg (by decide), List.filter_cons, if_pos (by decide), dots_crlf r true hr]
    · rw [if_neg h10]
      unfold dots
      by_cases h46 : (b && c == 46) = true
      · rw [if_pos h46, if_pos h46, List.filter_cons, if_pos (by decide), List.filter_cons, if_pos (by decide), dots_crlf r false hr]
      · have hc' : (c != 13) = true := by simpa using hc
        have e10 : (c == 10) = false := by simpa using h10
        rw [if_neg h46, if_neg h46, List.filter_cons, if_pos hc', e10, dots_crlf r false hr]
theorem dots_crlf_len : ∀ (l : List Nat) (b : Bool), (dots b (crlf l)).length = (dots b l).length + l.count 10
  | [], _ => rfl
  | c :: r, b => by
    unfold crlf
    by_cases h10 : c = 10
    · subst h10
      have e : dots b (13 :: 10 :: crlf r) = 13 :: 10 :: dots true (crlf r) := by simp [dots]
      have e2 : dots b (10 :: r) = 10 :: dots true r := by simp [dots]
      rw [if_pos rfl, e, e2]
      simp only [List.length_cons, dots_crlf_len r true, List.count_cons_self]
      omega
    · rw [if_neg h10, List.count_cons_of_ne h10]
      unfold dots
      have e10 : (c == 10) = false := by simpa using h10
      by_cases h46 : (b && c == 46) = true
      · rw [if_pos h46, if_pos h46]
        simp only [List.length_cons, dots_crlf_len r false]
        omega
      · rw [if_neg h46, if_neg h46, e10]
        simp only [List.length_cons, dots_crlf_len r false]
        omega
theorem dots_ok : ∀ (l : List Nat) (b : Bool), (∀ c ∈ l, okc c = true) → ∀ c ∈ dots b l, okc c = true
  | [], _, _, _, hc => nomatch hc
  | d :: r, b, h, c, hc => by
    have hr := fun b => dots_ok r b (fun x hx => h x (List.mem_cons_of_mem _ hx))
    unfold dots at hc
    split at hc
    · rcases List.mem_cons.mp hc with rfl | hc
      · decide
      · rcases List.mem_cons.mp hc with rfl | hc
        · decide
        · exact hr _ c hc
    · rcases List.mem_cons.mp hc with rfl | hc
      · exact h _ List.mem_cons_self
      · exact hr _ c hc
theorem dots_len : ∀ (l : List Nat) (b : Bool), l.length ≤ (dots b l).length ∧ (dots b l).length ≤ 2 * l.length
  | [], _ => ⟨Nat.le_refl _, Nat.le_refl _⟩
  | d :: r, b => by
    have h1 := dots_len r false
    have h2 := dots_len r (d == 10)
    unfold dots
    split <;> simp only [List.length_cons] <;> omega
theorem cnt_count (c : Nat) : ∀ l : List Nat, cnt c l = (l.count c : Nat)
  | [] => rfl
  | n :: r => by
    rw [cnt_cons, cnt_count c r]
    by_cases h : n = c
    · subst h; rw [if_pos rfl, List.count_cons_self]; omega
    · rw [if_neg h, List.count_cons_of_ne h]; omega
theorem count_nl (x : Str) : Txt.count x (Str.ofString "\n") = (x.cps.toList.count 10 : Nat) := by
  rw [show Str.ofString "\n" = ⟨#[10]⟩ from by decide, count_is]
  exact cnt_count 10 x.cps.toList

/-- the word behind a sending -/
noncomputable def sentW (x : Str) : Str := ⟨(dots true x.cps.toList).toArray⟩
noncomputable abbrev padOf (x : Str) : Int := (-(((quoted x).length : Int) - Txt.count x (Str.ofString "\n"))).fmod 4
noncomputable abbrev zOf (x : Str) : Str := Txt.mul (Str.ofString "A") (padOf x) ++ quoted x
theorem size_of (x : Str) : ((quoted x).length : Int) - Txt.count x (Str.ofString "\n") = ((dots true x.cps.toList).length : Int) := by
  rw [count_nl]
  show (((dots true (crlf x.cps.toList)).toArray.size : Nat) : Int) - _ = _
  rw [List.size_toArray, dots_crlf_len]
  omega
theorem zOf_list (x : Str) : (zOf x).cps.toList = List.replicate (padOf x).toNat 65 ++ dots true (crlf x.cps.toList) := by
  show ((Txt.mul (Str.ofString "A") (padOf x)).cps ++ (quoted x).cps).toList = _
  rw [Array.toList_append, show Str.ofString "A" = ⟨#[65]⟩ from by decide, mul_one_list]
  rfl
structure SentOk (x : Str) : Prop where
  ok : ∀ c ∈ x.cps.toList, okc c = true
  some : 0 < x.cps.size
  few : x.cps.size ≤ 1000
theorem SentOk.h13 {x : Str} (h : SentOk x) : 13 ∉ x.cps.toList := fun m => by have := h.ok 13 m; revert this; decide
theorem sent_facts {x : Str} (h : SentOk x) : ∃ k : Nat, (padOf x).toNat + (dots true x.cps.toList).length = 4 * k ∧ (zOf x).cps.toList.filter (· != 13) = List.replicate (padOf x).toNat 65 ++ dots true x.cps.toList ∧
    (zOf x).cps.size ≤ 100000 ∧ ∀ c ∈ List.replicate (padOf x).toNat 65 ++ dots true x.cps.toList, okc c = true := by
  have hs := size_of x
  have e : padOf x = (-((dots true x.cps.toList).length : Int)) % 4 := by
    unfold padOf
    rw [hs, Int.fmod_eq_emod_of_nonneg _ (by decide)]
  have hd := dots_len x.cps.toList true
  have hd2 := dots_len (crlf x.cps.toList) true
  have hc2 := crlf_len x.cps.toList
  have hx : x.cps.toList.length ≤ 1000 := by simpa using h.few
  refine ⟨((padOf x).toNat + (dots true x.cps.toList).length) / 4, ?_, ?_, ?_, ?_⟩
  · rw [e]; omega
  · rw [zOf_list, List.filter_append, dots_crlf _ _ h.h13]
    congr 1
    rw [List.filter_eq_self]
    intro a ha
    rw [List.eq_of_mem_replicate ha]; decide
  · have : (zOf x).cps.size = (zOf x).cps.toList.length := by simp
    rw [this, zOf_list, List.length_append, List.length_replicate]
    omega
  · intro c hc
    rcases List.mem_append.mp hc with hc | hc
    · rw [List.eq_of_mem_replicate hc]; decide
    · exact dots_ok _ _ h.ok c hc

/-- all that the walk of a sending asks, about a word of signs -/
structure SentFacts (x : Str) : Prop where
  size : (zOf x).cps.size ≤ 100000
  small : ∀ c ∈ (zOf x).cps.toList, c < 128
  noPad : ∀ c ∈ KBw.bInts (figures (zOf x)), c ≠ 61
  whole : (decF (KBw.bInts (figures (zOf x)))).1 = 0
  octets : (byteArr (decF (KBw.bInts (figures (zOf x)))).2.2).size ≤ 40000
  threes : (encF (KBw.bInts (byteArr (decF (KBw.bInts (figures (zOf x)))).2.2))).1 = 0
  back : (swapped (transTable #[43, 47] #[46, 10]) (byteArr (encF (KBw.bInts (byteArr (decF (KBw.bInts (figures (zOf x)))).2.2))).2.2)).toList.map (fun c => c.toNat) = List.replicate (padOf x).toNat 65 ++ dots true x.cps.toList
theorem SentOk.facts {x : Str} (h : SentOk x) : SentFacts x := by
  obtain ⟨k, hk, hf, hz, hok⟩ := sent_facts h
  obtain ⟨f1, f2, f3, f4, f5, f6⟩ := sent_main (l := List.replicate (padOf x).toNat 65 ++ dots true x.cps.toList) (k := k) hf (by rw [List.length_append, List.length_replicate]; exact hk) hok
  have hzl : (zOf x).cps.size ≤ 40000 := by
    have hd2 := dots_len (crlf x.cps.toList) true
    have hc2 := crlf_len x.cps.toList
    have hx : x.cps.toList.length ≤ 1000 := by simpa using h.few
    have e : padOf x = (-((dots true x.cps.toList).length : Int)) % 4 := by
      unfold padOf
      rw [size_of x, Int.fmod_eq_emod_of_nonneg _ (by decide)]
    have : (zOf x).cps.size = (zOf x).cps.toList.length := by simp
    rw [this, zOf_list, List.length_append, List.length_replicate]
    omega
  refine ⟨hz, f1, f2, f3, Nat.le_trans f4 hzl, f5, ?_⟩
  have inj : ∀ (a b : List Nat), a.map (fun n : Nat => (n : Int)) = b.map (fun n : Nat => (n : Int)) → a = b := by
    intro a
    induction a with
    | nil => intro b hb; cases b with
      | nil => rfl
      | cons y r => simp at hb
    | cons x r ih =>
      intro b hb
      cases b with
      | nil => simp at hb
      | cons y t =>
        simp only [List.map_cons, List.cons.injEq] at hb
        rw [ih t hb.2, show x = y by omega]
  apply inj
  rw [← f6]
  unfold KBw.bInts
  rw [List.map_map]
  rfl
end Mine
end PartSentP
section PartSentW
open PySem PySem.Spec PySem.W PyProof.Rows PySem.Calls
set_option Elab.async false
set_option maxRecDepth 100000
namespace Mine
theorem fill_SentW (w : World) : (fun (_ : Program) (_ : Frag) => True) PySem.Challenge.rw_kq0062_01.row.prog (hd.heap_1 w.params) := by
  k_fill
  trivial
namespace MF2
theorem args_decode_2 (a b : Value) : argsOk "bytes.decode" ⟨[a, b], []⟩ := by
  unfold argsOk; rw [signature?_of (id := "bytes.decode") (n := ['e', 'd', 'o', 'c', 'e', 'd']) (o := ['s', 'e', 't', 'y', 'b']) (by kernel_rfl) FB.owner_bytes]; kernel_rfl
end MF2
section
variable {prog : Program} {w : World} {M : Model} {A : Around} {E : Value → Shared → Prop} {s : Shared} {b : Array UInt8} {t ta : Tok}
theorem call_decode {Q : Value → Shared → Prop} (hne : b ≠ #[]) (h : ∀ d ∈ b.toList, d.toNat < 128) (hb : b.size ≤ 100000) (hQ : ∀ t' k, Q (.str ⟨(b.toList.map fun c => c.toNat).toArray⟩ t') { s with toks := k }) :
    wpAny (model prog w) A (call (.builtin "bytes.decode") [.bytes b t, .str (Str.ofString "ascii") ta]) Q E s := by
  cases hl : b.toList with
  | nil => exact absurd (by rw [← Array.toArray_toList (xs := b), hl]) hne
  | cons c cs =>
    have e : b = (c :: cs).toArray := by rw [← Array.toArray_toList (xs := b), hl]
    subst e
    refine call_meets FB.slot_bytes_decode (typeIs_bytes _ _ _) FB.entry_bytes_decode (MF2.args_decode_2 _ _) (meets_decode (x := ⟨((c :: cs).map fun c => c.toNat).toArray⟩) rfl (by simpa using h) (by simpa using hb)) hQ
end
theorem SentOk.size4 {x : Str} (h : SentOk x) : x.cps.size ≤ 40000 := Nat.le_trans h.few (by decide)
theorem SentOk.quotedLen {x : Str} (hok : SentOk x) : (quoted x).length ≤ 4000 := by
  show (dots true (crlf x.cps.toList)).toArray.size ≤ _
  have hd2 := dots_len (crlf x.cps.toList) true
  have hc2 := crlf_len x.cps.toList
  have hx : x.cps.toList.length ≤ 1000 := by simpa using hok.few
  rw [List.size_toArray]; omega
noncomputable def octetsOf (x : Str) : Array UInt8 := byteArr (decF (KBw.bInts (figures (zOf x)))).2.2
noncomputable def backOf (x : Str) : Array UInt8 := swapped (transTable #[43, 47] #[46, 10]) (byteArr (encF (KBw.bInts (octetsOf x))).2.2)
noncomputable def textOf (x : Str) : Str := ⟨((backOf x).toList.map fun c => c.toNat).toArray⟩
theorem backOf_list {x : Str} (hok : SentOk x) : (backOf x).toList.map (fun c => c.toNat) = List.replicate (padOf x).toNat 65 ++ dots true x.cps.toList := hok.facts.back
theorem sentDec_ct (w : World) (x : Str) (t ta : Tok) (hok : SentOk x) : Ct w 136 [.str (zOf x) t, .bytes #[46, 10] ta] [] 5 40 [] (fun tl v => tl = [] ∧ ∃ t, v = .bytes (octetsOf x) t) :=
  b64decode_ct w (zOf x) t ta hok.facts.size hok.facts.small hok.facts.noPad hok.facts.whole
theorem sentEnc_ct (w : World) (x : Str) (t ta : Tok) (hok : SentOk x) : Ct w 128 [.bytes (octetsOf x) t, .bytes #[46, 10] ta] [] 4 32 [] (fun tl v => tl = [] ∧ ∃ t, v = .bytes (backOf x) t) :=
  b64encode_ct w (octetsOf x) t ta hok.facts.octets hok.facts.threes
theorem SentOk.pad4 {x : Str} : (padOf x).toNat < 4 := by
  have e : padOf x = (-((dots true x.cps.toList).length : Int)) % 4 := by
    unfold padOf
    rw [size_of x, Int.fmod_eq_emod_of_nonneg _ (by decide)]
  omega
theorem SentOk.g1 {x : Str} (hok : SentOk x) : backOf x ≠ #[] := fun e => by
  have f7 := backOf_list hok
  have hdl := dots_len x.cps.toList true
  have hxl : 0 < x.cps.toList.length := by simpa using hok.some
  have := congrArg List.length f7
  rw [e] at this
  simp at this
  omega
theorem SentOk.g2 {x : Str} (hok : SentOk x) : ∀ d ∈ (backOf x).toList, d.toNat < 128 := fun d hd => by
  obtain ⟨k, hk, _, _, hokl⟩ := sent_facts hok
  refine okc_lt (hokl _ ?_)
  rw [← backOf_list hok]
  exact List.mem_map_of_mem hd
theorem SentOk.g3 {x : Str} (hok : SentOk x) : (backOf x).size ≤ 100000 := by
  have := congrArg List.length (backOf_list hok)
  have hdl := dots_len x.cps.toList true
  have hp := SentOk.pad4 (x := x)
  have hxl : x.cps.toList.length ≤ 1000 := by simpa using hok.few
  rw [List.length_map, List.length_append, List.length_replicate, Array.length_toList] at this
  omega
theorem sent_decode {prog : Program} {w : World} {A : Around} {E : Value → Shared → Prop} {s : Shared} {x : Str} {t ta : Tok} {Q : Value → Shared → Prop} (hok : SentOk x) (hQ : ∀ t' k, Q (.str (textOf x) t') { s with toks := k }) :
    wpAny (model prog w) A (call (.builtin "bytes.decode") [.bytes (backOf x) t, .str (Str.ofString "ascii") ta]) Q E s := call_decode hok.g1 hok.g2 hok.g3 hQ
local macro_rules | `(tactic| walk_at "call ref") => `(tactic| (k_here; k_dflt (first | (refine' ct_use (quo_ct _ _ _ (SentOk.size4 (by assumption)) (SentOk.h13 (by assumption))) ?k1 ?k2 ?k3 ?k4 ?k5 ?k6 ?k7 ?k8 ?k9 ?_) | (refine' ct_use (sentDec_ct _ _ _ _ (by assumption)) ?k1 ?k2 ?k3 ?k4 ?k5 ?k6 ?k7 ?k8 ?k9 ?_) | (refine' ct_use (sentEnc_ct _ _ _ _ (by assumption)) ?k1 ?k2 ?k3 ?k4 ?k5 ?k6 ?k7 ?k8 ?k9 ?_)); (case k1 => k_asm); (case k2 => k_asm); (case k3 => k_asm); (case k4 => k_asm); (case k5 => k_asm); (case k6 => (first | exact rfl | assumption)); (case k7 => (exact List.forall_mem_nil _)); (case k8 => ktr_room); (case k9 => ktr_units);  intro v9 tl9 h9 tk9 F9 N9 ne9 hp9; (obtain ⟨e9, t9, e9'⟩ := hp9; subst e9 e9'); (try simp only [List.nil_append] at N9); clear ne9; (try dsimp only); (try k_fold)))
local macro_rules | `(tactic| walk_at "call builtin:bytes.decode") => `(tactic| (k_here; k_dflt (refine sent_decode (by assumption) ?_); intro _ _))
theorem textOf_list {x : Str} (hok : SentOk x) : (textOf x).cps.toList = List.replicate (padOf x).toNat 65 ++ dots true x.cps.toList := backOf_list hok
theorem textOf_len {x : Str} (hok : SentOk x) : (textOf x).length ≤ 100000 := by
  show ((backOf x).toList.map fun c => c.toNat).toArray.size ≤ _
  have := hok.g3
  rw [List.size_toArray, List.length_map, Array.length_toList]; exact this
theorem sent_last {x : Str} (hok : SentOk x) : Txt.slice (textOf x) (some (-(((quoted x).length : Int) - Txt.count x (Str.ofString "\n")))) none = sentW x := by
  have hdl := dots_len x.cps.toList true
  have hxl : 0 < x.cps.toList.length := by simpa using hok.some
  exact slice_last (textOf_list hok) (size_of x).symm (by omega)
theorem sent_slice {prog : Program} {w : World} {A : Around} {E : Value → Shared → Prop} {s : Shared} {h₀ : Heap} {L : Addr} {m : Str → Option Value} {news : Led} {value slice : Expr} {x : Str} {t ui : Tok} {Q : Value → Shared → Prop} (hok : SentOk x) (hF : Fr h₀ L s.heap m) (hN : News h₀ L s.heap news)
    (h : ∀ h' t' k, Fr h₀ L h' m → News h₀ L h' news → Q (.str (sentW x) t') { s with heap := h', toks := k })
    (hs : subscripted slice false (.str (textOf x) t) (.ref s.heap.objs.size) = operate [.ref s.heap.objs.size, .str (textOf x) t] (getItem (.str (textOf x) t) (.ref s.heap.objs.size)) := by with_unfolding_all rfl)
    (ht : ∀ r, letTemporaryGo value (.str (textOf x) t) r = pure () := by intro _; with_unfolding_all rfl) :
    wpAny (model prog w) A (subscriptTail value slice (.str (textOf x) t) (.ref s.heap.objs.size)) Q E { s with heap := s.heap.push { cls := .type "slice", data := .fields #[.int (-(((quoted x).length : Int) - Txt.count x (Str.ofString "\n"))) ui, .none, .none] } } :=
  slice_strN_sn hF hN (fun h' t' k a b => by rw [sent_last hok]; exact h h' t' k a b) hs ht (Nat.le_trans (textOf_len hok) (by rw [sizeLine_eq]; decide))
local macro_rules | `(tactic| walk_at "subscriptTail") => `(tactic| (k_here; (with_reducible show wpAny _ _ (subscriptTail _ (Expr.Slice _ _ _ _) (Value.str (textOf _) _) (Value.ref _)) _ _ _); (with_reducible rename Fr _ _ _ _ => F'); (with_reducible rename News _ _ _ _ => N'); (refine sent_slice (s := ⟨_, _, _, _, _⟩) (by assumption) F' N' ?_); intro _ _ _ _ _))
set_option maxHeartbeats 0 in
theorem sent_ct (w : World) (x : Str) (t : Tok) (hok : SentOk x) :
    Ct w 193 [.str x t] [] 7 60 [] (fun tl v => tl = [] ∧ ∃ t, v = .str (sentW x) t) := by
  have hql : (quoted x).length ≤ 4000 := hok.quotedLen
  refine' ct_intro (binds := [(Str.ofString "word", .str x t)]) ?ho ?hcd ?hb ?hl ?hc ?hco ?hg ?hk ?hdd ?body
  case ho => k_is
  case hcd => k_is
  case hb => exact fun s X => BindsTo.of_eq rfl
  case hl => exact rfl
  case hc => decide
  case hco => exact rfl
  case hg => exact rfl
  case hk => exact rfl
  case hdd => decide
  intro p loose mean mg mb dp un gd cn cs a ccd cl outer base g L L' s B F X N T hlt hd hu
  k_fold
  k_steps
  all_goals exact ⟨[], _, _, _, rfl, by k_asm, by k_asm, by simp, rfl, ⟨_, rfl⟩⟩
end Mine
end PartSentW
section PartTrs
set_option maxRecDepth 100000
set_option Elab.async false
namespace Mine
open PySem PySem.Spec PySem.W PyProof.Rows PySem.Calls PySem.Builtin PySem.Builtin.Str

noncomputable def special : List Nat := [40, 41, 91, 93, 123, 125, 63, 42, 43, 45, 124, 94, 36, 92, 46, 38, 126, 35, 32, 9, 10, 13, 11, 12]
noncomputable def escC (c : Nat) : Str := if special.contains c then ⟨#[92, c]⟩ else ⟨#[c]⟩

theorem fill_trs (w : World) : (fun (_ : Program) (_ : Frag) => True) PySem.Challenge.rw_kq0062_01.row.prog (hd.heap_1 w.params) := by
  k_fill
  trivial
noncomputable def keyOk (e : DictEntry) : Bool := match e.key with | .int k _ => e.hash == hashInt k | _ => false
noncomputable def escOk (es : Array DictEntry) (c : Nat) : Bool := match findBy Value.isInt es (c : Int) with
  | some (.str s _) => special.contains c && s == ⟨#[92, c]⟩
  | some _ => false
  | none => !special.contains c
noncomputable def EscAt (prog : Program) (w : World) (h : Heap) : Prop := ∃ f, h.MapOf (intKind prog w) 150 f ∧ ∀ c : Nat, c < 128 → (special.contains c = true ∧ ∃ t, f c = some (.str ⟨#[92, c]⟩ t)) ∨ (special.contains c = false ∧ f c = none)
theorem escAt_mk {prog : Program} {w : World} {h : Heap} {es : Array DictEntry} {n : Nat} (e : h.get? 150 = some ⟨.type "dict", none, .dict es n, #[]⟩) (hk : es.toList.all keyOk = true) (hc : (List.range 128).all (escOk es) = true) : EscAt prog w h := by
  refine ⟨_, ⟨_, _, _, e, ⟨rfl, rfl, rfl⟩, rfl, ?_, fun _ => rfl⟩, fun c hlt => ?_⟩
  · intro x hx
    have := List.all_eq_true.mp hk x (Array.mem_toList_iff.mpr hx)
    unfold keyOk at this
    split at this
    · rename_i k t ek
      exact ⟨k, by rw [ek]; exact intKind_is prog w k t, eq_of_beq this⟩
    · cases this
  · have := List.all_eq_true.mp hc c (List.mem_range.mpr hlt)
    unfold escOk at this
    show (special.contains c = true ∧ ∃ t, findBy Value.isInt es (c : Int) = some (.str ⟨#[92, c]⟩ t)) ∨ (special.contains c = false ∧ findBy Value.isInt es (c : Int) = none)
    split at this
    · rename_i s t ef
      simp only [Bool.and_eq_true, beq_iff_eq] at this
      exact .inl ⟨this.1, t, by rw [ef, this.2]⟩
    · cases this
    · rename_i ef
      exact .inr ⟨by simpa using this, ef⟩
theorem escAt_of {prog : Program} {w : World} {h : Heap} (X : (hd.heap_1 w.params).In h) : EscAt prog w h := escAt_mk (X 150 _ (by k_is)) (by decide +kernel) (by decide +kernel)
theorem EscAt.keeps {prog : Program} {w : World} {h h' : Heap} (x : EscAt prog w h) (k : ∀ b o, h.get? b = some o → h'.get? b = some o) : EscAt prog w h' := by
  obtain ⟨f, ⟨o, es, ep, e, r⟩, hf⟩ := x
  exact ⟨f, ⟨o, es, ep, k _ _ e, r⟩, hf⟩
namespace MF
theorem sub_key_lookup : isSubtype (.type "KeyError") (.type "LookupError") = pure true := by rw [isSubtype_type]; kernel_rfl
end MF

section
variable {prog : Program} {w : World} {A : Around} {E : Value → Shared → Prop} {s : Shared} {c : Nat}
theorem lookup_esc {Q : Mapped → Shared → Prop} (T : EscAt prog w s.heap) (hh : A.handled = none) (hc : c < 128)
    (h1 : special.contains c = true → ∀ tk, Q (.text ⟨#[92, c]⟩) { s with toks := tk }) (h2 : special.contains c = false → ∀ h' tk, (∀ b o, s.heap.get? b = some o → h'.get? b = some o) → Q .keep { s with heap := h', toks := tk }) :
    wpAny (model prog w) A (tableLookup (.ref 150) c) Q E s := by
  obtain ⟨f, hm, hf⟩ := T
  unfold tableLookup
  refine wpAny_bind (wpAny_attempt (wpAny_bind (wpAny_mkInt ?_)))
  rcases hf c hc with ⟨hs, t, e⟩ | ⟨hs, e⟩
  · refine wpAny_getItem_of (intKind_is prog w c _) hm e ?_
    dsimp only
    refine wpAny_bind (wpAny_of_eq (a := none) rfl ?_)
    dsimp only
    refine wpAny_bind (wpAny_of_eq (a := some ⟨#[92, c]⟩) rfl ?_)
    exact wpAny_pure (h1 hs _)
  · refine wpAny_getItem_missing_of (intKind_is prog w c _) (by decide) hh hm e fun h' e' hx => ?_
    dsimp only
    obtain ⟨ob, t', eo, hcls, _⟩ := hx.there
    refine wpAny_bind (wpAny_isInstance (T := "KeyError") ⟨ob, eo, hcls⟩ MF.sub_key_lookup ?_)
    refine wpAny_ite ?_
    rw [if_pos rfl]
    exact wpAny_bind (wpAny_rule (wpAny_pure (h2 hs h' _ hx.keeps)))
end
end Mine
end PartTrs
section PartEsc
set_option maxRecDepth 100000
set_option Elab.async false
namespace Mine
open PySem PySem.Spec PySem.W PyProof.Rows PySem.Calls PySem.Builtin PySem.Builtin.Str
theorem meets_strtr {prog : Program} {w : World} {c : Nat} {t : Tok} (hc : c < 128) :
    MeetsIn prog w (Builtin.«str.translate» ⟨[.str ⟨#[c]⟩ t, .ref 150], []⟩) (fun A R s => A.handled = none ∧ EscAt prog w s.heap ∧ 
      ∀ h' tk' t', (∀ b o, s.heap.get? b = some o → h'.get? b = some o) → R (.ok (.ret (.str (escC c) t'))) { s with heap := h', toks := tk' }) := by
  refine .of_wp fun A R s hS => ?_
  obtain ⟨hA, hT, hR⟩ := hS
  unfold Builtin.«str.translate» strOneArg
  refine wpAny_bind (wpAny_of_eq (a := (.str ⟨#[c]⟩ t, ⟨#[c]⟩, .ref 150)) rfl ?_)
  dsimp only
  refine wpAny_ite ?_
  rw [if_neg (by simp [Str.length])]
  refine wpAny_bind ?_
  have e1 : (#[c] : Array Nat).all (fun x => decide (x < 128)) = true := by simp [hc]
  rw [e1]
  rw [← Array.forIn_toList]
  show wpAny _ _ (forIn [c] _ _) _ _ _
  rw [List.forIn_cons]
  refine wpAny_bind ?_
  dsimp only [List.lookup_nil]
  refine wpAny_ite ?_
  rw [if_neg (by decide)]
  refine wpAny_ite ?_
  rw [if_pos rfl]
  refine wpAny_bind ?_
  refine lookup_esc (A := A.in1) hT hA hc (fun hs tk => ?_) (fun hs h' tk hk => ?_)
  · dsimp only
    rw [if_neg (by simp [Str.length])]
    dsimp only
    refine wpAny_bind (wpAny_pure ?_)
    dsimp only
    refine wpAny_bind (wpAny_rule ?_)
    refine wpAny_ite ?_
    rw [if_neg (by decide)]
    refine wpAny_bind ?_
    refine lookup_esc hT hA hc (fun _ tk => ?_) (fun hs2 _ _ _ => by rw [hs] at hs2; cases hs2)
    dsimp only
    refine wpAny_pure ?_
    dsimp only
    rw [List.forIn_nil]
    refine wpAny_pure ?_
    refine wpAny_ite ?_
    rw [if_neg (by simp [Str.length, tooLong, sizeLine_eq])]
    have e2 : escC c = ⟨#[92, c]⟩ := by unfold escC; rw [if_pos hs]
    unfold retStr
    refine wpAny_bind ?_
    refine wpAny_mkStr (wpAny_pure ⟨_, rfl, ?_⟩) (by simp [Str.length, sizeLine_eq])
    have := hR s.heap (tk + 1) tk (fun _ _ e => e)
    rw [e2] at this
    simpa using this
  · dsimp only
    refine wpAny_bind (wpAny_pure ?_)
    dsimp only
    refine wpAny_pure ?_
    dsimp only
    rw [List.forIn_nil]
    refine wpAny_pure ?_
    refine wpAny_ite ?_
    rw [if_neg (by simp [tooLong, sizeLine_eq])]
    have e2 : escC c = ⟨#[c]⟩ := by unfold escC; rw [if_neg (by rw [hs]; decide)]
    unfold retStr
    refine wpAny_bind ?_
    refine wpAny_mkStr (wpAny_pure ⟨_, rfl, ?_⟩) (by simp [Str.length, sizeLine_eq])
    have := hR h' (tk + 1) tk hk
    rw [e2] at this
    simpa using this
section
variable {prog : Program} {w : World} {A : Around} {E : Value → Shared → Prop} {s : Shared}
theorem call_strtr {c : Nat} {t : Tok} {Q : Value → Shared → Prop} (hc : c < 128) (hA : A.handled = none) (hT : EscAt prog w s.heap)
    (h : ∀ h' tk' t', (∀ b o, s.heap.get? b = some o → h'.get? b = some o) → Q (.str (escC c) t') { s with heap := h', toks := tk' }) :
    wpAny (model prog w) A (call (.builtin "str.translate") [.str ⟨#[c]⟩ t, .ref 150]) Q E s :=
  call_meetsIn MF.slot_str_translate (typeIs_str _ _ _) MF.entry_str_translate (MF.args_str_translate_2 _ _) (meets_strtr hc) ⟨hA, hT, h⟩
theorem Fr.keeps' {h₀ : Heap} {L : Addr} {h h' : Heap} {m : Str → Option Value} (F : Fr h₀ L h m) (k : ∀ b o, h.get? b = some o → h'.get? b = some o) : True := trivial
end
end Mine
end PartEsc
section PartEscW
open PySem PySem.Spec PySem.W PyProof.Rows PySem.Calls
set_option Elab.async false
set_option maxRecDepth 100000
namespace Mine
theorem fill_EscW (w : World) : (fun (_ : Program) (_ : Frag) => True) PySem.Challenge.rw_kq0062_01.row.prog (hd.heap_1 w.params) := by
  k_fill
  trivial
section
variable {prog : Program} {w : World} {A : Around} {E : Value → Shared → Prop} {s : Shared} {h₀ : Heap} {L : Addr} {m : Str → Option Value} {news : Led} {c : Nat} {t : Tok} {Q : Value → Shared → Prop}
theorem esc_tr (X : (hd.heap_1 w.params).In h₀) (F : Fr h₀ L s.heap m) (N : News h₀ L s.heap news) (hc : c < 128) (hA : A.handled = none)
    (h : ∀ h' tk' t', Fr h₀ L h' m → News h₀ L h' news → Q (.str (escC c) t') { s with heap := h', toks := tk' }) :
    wpAny (model prog w) A (call (.builtin "str.translate") [.str ⟨#[c]⟩ t, .ref 150]) Q E s :=
  call_strtr hc hA (escAt_of (X.keeps F.keep)) fun h' tk' t' hk => h h' tk' t' (F.keeps hk) (N.grown hk)
theorem method_strtr {M : Model} {x : Str} {pl : Sem Bool} {Q : Value × List Value → Shared → Prop} (h : Q (.builtin "str.translate", [.str x t]) s) : wpAny M A (getMethod (.str x t) (Str.ofString "translate") pl) Q E s := by
  with_reducible exact GM.of (.str x t) (typeIs_str _ _ _) MF.slot_str_translate MF.type_str_translate GM.noRef h
end
local macro_rules | `(tactic| walk_at "getMethod str") => `(tactic| (k_here; with_reducible refine method_strtr ?_))
local macro_rules | `(tactic| walk_at "call builtin:str.translate") => `(tactic| (k_here; k_dflt (refine' esc_tr ?X ?F ?N ?hc rfl ?_; (case X => k_asm); (case F => k_asm); (case N => k_asm); (case hc => assumption)); intro h' tk' t' F' N'))
set_option maxHeartbeats 0 in
theorem esc_ct (w : World) (c : Nat) (t : Tok) (hc : c < 128) : Ct w 160 [.str ⟨#[c]⟩ t] [] 1 8 [] (fun tl v => tl = [] ∧ ∃ t, v = .str (escC c) t) := by
  refine' ct_intro (binds := [(Str.ofString "pattern", .str ⟨#[c]⟩ t)]) ?ho ?hcd ?hb ?hl ?hc ?hco ?hg ?hk ?hdd ?body
  case ho => k_is
  case hcd => k_is
  case hb => exact fun s X => BindsTo.of_eq rfl
  case hl => exact rfl
  case hc => decide
  case hco => exact rfl
  case hg => exact rfl
  case hk => exact rfl
  case hdd => decide
  intro p loose mean mg mb dp un gd cn cs a ccd cl outer base g L L' s B F X N T hlt hd hu
  k_fold
  k_steps
  all_goals exact ⟨[], _, _, _, rfl, by k_asm, by k_asm, by simp, rfl, ⟨_, rfl⟩⟩
end Mine
end PartEscW
section PartBm
set_option maxRecDepth 100000
set_option Elab.async false
namespace Mine
open PySem PySem.Spec PySem.W PyProof.Rows PySem.Calls PySem.Builtin PySem.Builtin.Str
namespace MF
theorem type_list_append : typeOf (.builtin "list.append") = pure (.type "method_descriptor") := by show builtinType _ = _; rw [builtinType_eq_fast]; kernel_rfl
theorem md_get : typeLookup (.type "method_descriptor") "__get__" = pure (some (.builtin "method_descriptor.__get__")) := by rw [typeLookup_type, builtinLookup_eq_fast]; kernel_rfl
theorem md_set : typeLookup (.type "method_descriptor") "__set__" = pure none := by rw [typeLookup_type, builtinLookup_eq_fast]; kernel_rfl
theorem md_del : typeLookup (.type "method_descriptor") "__delete__" = pure none := by rw [typeLookup_type, builtinLookup_eq_fast]; kernel_rfl
theorem entry_md_get : entryFor table "method_descriptor.__get__" = some Builtin.«method_descriptor.__get__» := entryFor_of_tree (by kernel_rfl)
theorem slot_md_get : Slot "method_descriptor" "__get__" "method_descriptor.__get__" :=
  .of (owner := "method_descriptor") (n := "__get__") (by rw [typeLookup_type, builtinLookup_eq_fast]; kernel_rfl) (by decide +kernel) (by decide +kernel) (by decide +kernel)
    (by first | exact .inl (by decide +kernel) | exact .inr (by decide +kernel)) (by rw [isSubtype_type]; kernel_rfl)
theorem told_append : Manifest.toldItsClass.contains "list.append" = false := by decide +kernel
theorem args_md_get_3 (a b c : Value) : argsOk "method_descriptor.__get__" ⟨[a, b, c], []⟩ := by unfold argsOk; kernel_rfl
theorem sub_list : isSubtype (.type "list") (.type "list") = pure true := by rw [isSubtype_type]; kernel_rfl
end MF
noncomputable def bmOf (a : Addr) : Obj := { cls := .type "builtin_function_or_method", data := .fields #[.builtin "list.append", .ref a] }
theorem meets_md_append (a : Addr) (xs : Array Value) (k : Nat) (sl : Array (Option Value)) :
    Meets (Builtin.«method_descriptor.__get__» ⟨[.builtin "list.append", .ref a, .type "list"], []⟩) (fun _ R s => s.heap.get? a = some { cls := .type "list", dict := none, data := .seq xs k, slots := sl } ∧
      R (.ok (.ret (.ref s.heap.objs.size))) { s with heap := s.heap.push (bmOf a) }) :=
  Meets.of_wp fun prog w A R s hs => by
    obtain ⟨hp, g, d, tk, os⟩ := s
    obtain ⟨hx, hs⟩ := hs
    have hT : (⟨hp, g, d, tk, os⟩ : Shared).TypeIs (.ref a) "list" := ⟨_, hx, rfl⟩
    unfold Builtin.«method_descriptor.__get__»
    refine wpAny_bind (wpAny_of_eq (a := (.builtin "list.append", some (.ref a), some (.type "list"))) (by kernel_rfl) ?_)
    dsimp only
    rw [MF.told_append]
    have hI : Looks (model prog w) hp (isInstance (.ref a) (.type "list")) true := fun A' Q' E' s' hk hq => wpAny_isInstance (T := "list") ⟨_, hk _ _ hx, rfl⟩ MF.sub_list hq
    repeat lk
    exact ⟨_, rfl, hs⟩
theorem meets_ga_append (a : Addr) (xs : Array Value) (k : Nat) (sl : Array (Option Value)) (u : Tok) :
    Meets (Builtin.«object.__getattribute__» ⟨[.ref a, .str (Str.ofString "append") u], []⟩) (fun _ R s => s.heap.get? a = some { cls := .type "list", dict := none, data := .seq xs k, slots := sl } ∧
      R (.ok (.ret (.ref s.heap.objs.size))) { s with heap := s.heap.push (bmOf a) }) :=
  Meets.of_wp fun prog w A R s hs => by
    obtain ⟨hp, g, d, tk, os⟩ := s
    obtain ⟨hx, hs⟩ := hs
    have hT : (⟨hp, g, d, tk, os⟩ : Shared).TypeIs (.ref a) "list" := ⟨_, hx, rfl⟩
    have f6 := F.slot_list_append.lookup
    have f7 := F.slot_list_append.bind (.ref a)
    have f8 := MF.type_list_append
    have f9 := MF.md_get
    have f10 := MF.md_set
    have f11 := MF.md_del
    unfold Builtin.«object.__getattribute__»
    repeat (any_goals (first | assumption | ((with_reducible show wpAny _ _ (call (Value.builtin "method_descriptor.__get__") _) _ _ _); refine call_meets MF.slot_md_get MF.type_list_append MF.entry_md_get (MF.args_md_get_3 _ _ _) (meets_md_append a xs k sl) ⟨hx, ?_⟩; exact wpAny_pure ⟨_, rfl, hs⟩) | wp_step))
theorem getAttr_append {prog : Program} {w : World} {A : Around} {E : Value → Shared → Prop} {s : Shared} {a : Addr} {o : Obj} {xs : Array Value} {k : Nat} {Q : Value → Shared → Prop}
    (hx : s.heap.get? a = some o) (hc : o.cls = .type "list") (hdat : o.data = .seq xs k) (hd : o.dict = none) 
    (h : Q (.ref s.heap.objs.size) { s with heap := s.heap.push (bmOf a), toks := s.toks + 1 }) :
    wpAny (model prog w) A (getAttr (.ref a) (Str.ofString "append") true) Q E s := by
  obtain ⟨c, dct, dat, sl⟩ := o
  simp only at hc hdat hd
  subst hc hdat hd
  obtain ⟨hp, g, d, tk, os⟩ := s
  have hT : ∀ tk', (⟨hp, g, d, tk', os⟩ : Shared).TypeIs (.ref a) "list" := fun _ => ⟨_, hx, rfl⟩
  have f3 := F.slot_list_getattribute.lookup
  have f4 := F.slot_list_getattribute.bind (.ref a)
  have f5 := am_list_getattr_none
  unfold getAttr getAttrBy
  repeat (any_goals (first | assumption | exact hT _ | ((with_reducible show wpAny _ _ (call (Value.builtin "list.__getattribute__") _) _ _ _); refine call_meets F.slot_list_getattribute (hT _) am_entry_list_getattribute (F.args_list_getattribute_2 _ _) (meets_ga_append a xs k sl _) ⟨hx, ?_⟩; exact handed_on rfl h) | wp_step))
namespace MF
theorem bound_append (a b : Value) : (match Manifest.signature? "list.append" with | some sig => Bind.checkArgs "list.append" { sig with full := s!"{Bind.lastOf "list"}.{Bind.lastOf "list.append"}" } ⟨[a, b], []⟩ | none => pure ()) = pure () := by
  rw [signature?_of (id := "list.append") (n := ['d', 'n', 'e', 'p', 'p', 'a']) (o := ['t', 's', 'i', 'l']) (by kernel_rfl) F.owner_list]; kernel_rfl
theorem sub_list_module : isSubtype (.type "list") (.type "module") = pure false := by rw [isSubtype_type]; kernel_rfl
theorem kind_append : builtinKind "list.append" = some .method := by decide +kernel
theorem varargs_append : Manifest.varargsMethods.contains "list.append" = false := by decide +kernel
end MF
theorem call_bm {prog : Program} {w : World} {A : Around} {E : Value → Shared → Prop} {s : Shared} {a M : Addr} {v : Value} {Q : Value → Shared → Prop} {its : Array Value} {n : Nat} (hM : s.heap.get? M = some (bmOf a)) (ho : s.heap.get? a = some { cls := .type "list", data := .seq its n })
    (h : wpAny (model prog w) A.in1 (Builtin.«list.append» ⟨[.ref a, v], []⟩) (fun fin s' => ∃ v, fin = .done (.ret v) ∧ Q v s') E s) : wpAny (model prog w) A (call (.ref M) [v]) Q E s := by
  refine wpAny_call (codeAny_of_tree ?_)
  obtain ⟨hp, g, d, tk, os⟩ := s
  have hmod : Looks (model prog w) hp (isInstance (.ref a) (.type "module")) false := fun A' Q' E' s' hk hq => wpAny_isInstance (T := "list") ⟨_, hk _ _ ho, rfl⟩ MF.sub_list_module hq
  have hty : Looks (model prog w) hp (isType (.ref a)) false := fun A' Q' E' s' hk hq => by
    unfold isType
    refine wpAny_bind (Looks.ld ho A' _ _ _ hk ?_)
    exact wpAny_pure hq
  have hto : Looks (model prog w) hp (typeOf (.ref a)) (.type "list") := fun A' Q' E' s' hk hq => wpAny_typeOf (T := "list") ⟨_, hk _ _ ho, rfl⟩ hq
  have hb : Looks (model prog w) hp (checkBoundCall "list.append" ⟨[.ref a, v], []⟩) () := by
    have e1 := MF.bound_append (.ref a) v
    unfold checkBoundCall
    cases hsig : Manifest.signature? "list.append" with
    | none => exact Looks.now
    | some sig =>
      rw [hsig] at e1
      dsimp only at e1 ⊢
      rw [MF.kind_append]
      intro A' Q' E' s' hk hq
      dsimp only
      refine wpAny_ite ?_
      rw [if_neg (by decide)]
      refine wpAny_bind (hmod A' _ _ _ hk ?_)
      refine wpAny_ite ?_
      rw [MF.varargs_append]
      rw [if_neg (by decide)]
      refine wpAny_bind (hty A' _ _ _ hk ?_)
      refine wpAny_bind (hto A' _ _ _ hk ?_)
      dsimp only
      exact wpAny_of_eq e1 hq
  show wpAny _ _ (callAny (.ref M) ⟨[v], []⟩) _ _ _
  unfold callAny bmOf at *
  repeat lk
  refine ⟨plainId_quiet F.slot_list_append.plain _, codeAny_builtin F.entry_list_append ?_⟩
  rw [Around.under_plainId F.slot_list_append.plain]
  refine wpAny_mono h (fun fin s' h' => ?_) fun _ _ h' => h'
  obtain ⟨v, rfl, hv⟩ := h'; exact hv
section
variable {prog : Program} {w : World} {A : Around} {E : Value → Shared → Prop} {s : Shared} {h₀ : Heap} {L : Addr} {m : Str → Option Value} {news news' : Led} {D M : Addr} {its : Array Value} {n : Nat} {Q : Value → Shared → Prop}
theorem bm_get (F : Fr h₀ L s.heap m) (N : News h₀ L s.heap news) (hm : (D, listOf its n) ∈ news)
    (h : ∀ q h' k, Fr h₀ L h' m → News h₀ L h' ((q, bmOf D) :: news) → (∀ p ∈ news, p.1 < q) → Q (.ref q) { s with heap := h', toks := k }) :
    wpAny (model prog w) A (getAttr (.ref D) (Str.ofString "append") true) Q E s := by
  have z := N (D, listOf its n) hm
  exact getAttr_append z.1 rfl rfl rfl (h _ _ _ (F.push _) (N.push F _) fun p hp => Heap.lt_size (N p hp).1)
theorem bm_app {x : Value} (F : Fr h₀ L s.heap m) (N : News h₀ L s.heap news) (hm : (M, bmOf D) ∈ news) (U : Upd D (listOf its n) (listOf (its.push x) (n + 1)) news news')
    (h : ∀ h', Fr h₀ L h' m → News h₀ L h' news' → Q .none { s with heap := h' }) (hsz : its.size ≤ sizeLine) : wpAny (model prog w) A (call (.ref M) [x]) Q E s := by
  obtain ⟨pre, post, rfl, rfl, a, b⟩ := U.split
  have z := N (D, listOf its n) (List.mem_append.mpr (.inr (.head _)))
  refine call_bm (N _ hm).1 z.1 ?_
  show wpAny _ _ (updateSeq D (·.push x) >>= fun _ => ret .none) _ _ s
  refine wpAny_bind ?_
  refine wpAny_updateSeq z.1 rfl (wpAny_pure ⟨.none, rfl, ?_⟩)
  refine h _ (F.change (Heap.SameBut.update ..) z.2.1 z.2.2) (news_set N a b (Heap.SameBut.update ..) ?_)
  rw [Heap.get?_update_self _ z.1 (by rw [mapSeq_push]; rfl), mapSeq_push]
end
end Mine
end PartBm
section PartLst
set_option maxRecDepth 100000
set_option Elab.async false
namespace Mine
open PySem PySem.Spec PySem.W PyProof.Rows PySem.Calls
section
variable {prog : Program} {w : World} {A : Around} {E : Value → Shared → Prop} {s : Shared} {h₀ : Heap} {L : Addr} {m : Str → Option Value} {news : Led} {D : Addr} {vs : List Value} {n : Nat} {Q : Value → Shared → Prop}
theorem lst_item {value slice : Expr} {i : Int} {u : Tok} {x : Value} (N : News h₀ L s.heap news) (hm : (D, listOf vs.toArray n) ∈ news) (h0 : 0 ≤ i) (hfit : i < 2 ^ 63) (hx : vs[i.toNat]? = some x) (h : Q x s)
    (hs : subscripted slice false (.ref D) (.int i u) = operate [.ref D, .int i u] (getItem (.ref D) (.int i u)) := by with_unfolding_all rfl) :
    wpAny (model prog w) A (subscriptTail value slice (.ref D) (.int i u)) Q E s :=
  item_listR (items := vs.toArray) ⟨_, (N _ hm).1, rfl, _, rfl⟩ h0 hfit (by simpa using hx) h hs
theorem lst_last {value slice : Expr} {u : Tok} {x : Value} {us : List Value} (N : News h₀ L s.heap news) (hm : (D, listOf (us ++ [x]).toArray n) ∈ news) (h : Q x s)
    (hs : subscripted slice false (.ref D) (.int (-1) u) = operate [.ref D, .int (-1) u] (getItem (.ref D) (.int (-1) u)) := by with_unfolding_all rfl) :
    wpAny (model prog w) A (subscriptTail value slice (.ref D) (.int (-1) u)) Q E s := by
  have hl : s.heap.IsList D (us ++ [x]).toArray := ⟨_, (N _ hm).1, rfl, _, rfl⟩
  refine subscriptTail_builtinR hl.typeIs slot_list_getitem.lookup (wpAny_getItem_list_neg (Q := fun r s' => r = x ∧ Q r s') hl (by decide) ?_ (by decide) ?_ ⟨rfl, h⟩) hs
  · simp; omega
  · have e : ((-1 : Int) + ((us ++ [x]).toArray.size : Nat)).toNat = us.length := by simp; omega
    rw [e]; simp
theorem lst_truthy {Q : Bool → Shared → Prop} (N : News h₀ L s.heap news) (hm : (D, listOf vs.toArray n) ∈ news) (hfit : vs.length ≤ 100000) (h : ∀ k, Q (!vs.isEmpty) { s with toks := k }) : wpAny (model prog w) A (truthy (.ref D)) Q E s :=
  wpAny_truthy_list (items := vs.toArray) ⟨_, (N _ hm).1, rfl, _, rfl⟩ (by rw [List.size_toArray]; omega) (by rw [List.isEmpty_toArray]; exact h _)
theorem isNot_str_ref {x : Str} {t : Tok} {a : Addr} (h : Q (.bool true) s) : wpAny (model prog w) A (compareOp .IsNot (.str x t) (.ref a)) Q E s := wpAny_isNot_other rfl (by intro e; cases e) h
theorem isNot_ref_same {a : Addr} (h : Q (.bool false) s) : wpAny (model prog w) A (compareOp .IsNot (.ref a) (.ref a)) Q E s := wpAny_isNot_ref_self h
theorem lst_truthy1 {Q : Bool → Shared → Prop} {us : List Value} {x : Value} (N : News h₀ L s.heap news) (hm : (D, listOf (us ++ [x]).toArray n) ∈ news) (hfit : (us ++ [x]).length ≤ 100000) (h : ∀ k, Q true { s with toks := k }) : wpAny (model prog w) A (truthy (.ref D)) Q E s :=
  lst_truthy N hm hfit (by have e : (us ++ [x]).isEmpty = false := by simp
                           rw [e]; exact h)
theorem lst_len {k : Nat} (N : News h₀ L s.heap news) (hm : (D, listOf vs.toArray n) ∈ news) (hk : vs.length = k) (hfit : k ≤ 100000) (h : ∀ t k', Q (.int (k : Int) t) { s with toks := k' }) : wpAny (model prog w) A (call (.builtin "len") [.ref D]) Q E s := by
  subst hk
  have hl : s.heap.IsList D vs.toArray := ⟨_, (N _ hm).1, rfl, _, rfl⟩
  refine call_len_list hl (by rw [List.size_toArray]; omega) ?_
  rw [List.size_toArray]
  exact h _ _
theorem lst_join {x y : Str} {t : Tok} {ys : List Str} {its : Array Value} (N : News h₀ L s.heap news) (hm : (D, listOf its n) ∈ news) (hy : StrsAre its.toList ys) (hj : Txt.join x ys = y) (hsep : x.length ≤ 16) (hw : (ys.map (·.length)).sum + ys.length ≤ 1048576)
    (h : ∀ t' k, Q (.str y t') { s with toks := k }) : wpAny (model prog w) A (call (.builtin "str.join") [.str x t, .ref D]) Q E s := by
  subst hj
  exact join_listW (items := its) ⟨_, (N _ hm).1, rfl, _, rfl⟩ hy hsep hw h
theorem cmp_int_eq {a b : Int} {t u : Tok} (e : a = b) (h : Q (.bool true) s) : wpAny (model prog w) A (compareOp .Eq (.int a t) (.int b u)) Q E s := P.eq_int (by rw [beq_iff_eq.mpr e]; exact h)
theorem cmp_int_ne {a b : Int} {t u : Tok} (e : a ≠ b) (h : Q (.bool false) s) : wpAny (model prog w) A (compareOp .Eq (.int a t) (.int b u)) Q E s := P.eq_int (by rw [beq_eq_false_iff_ne.mpr e]; exact h)
theorem cmp_str {x y : Str} {t u : Tok} {b : Bool} (hb : (x.cps.toList == y.cps.toList) = b) (h : Q (.bool b) s) : wpAny (model prog w) A (compareOp .Eq (.str x t) (.str y u)) Q E s := P.eq_str (by rw [hb]; exact h)
end
/-- what callWith does behind the arguments -/
noncomputable def restOfCall (pos : Pos) (f : Value) (na : Nat) (x : Args) : Sem Value := do
  standAt pos
  let p := [] ++ x.pos
  let r ← match ← keeperOf f, false with
    | .frame, true => callMarked starredCall f p x.kw
    | .frame, false => if na + 2 * ([] : List (Option Str × Sem Value)).length > 30 then call f p x.kw else callMarked plainCall f p x.kw
    | .boundFrame, false => if na + 2 * ([] : List (Option Str × Sem Value)).length > 30 then call f p x.kw else callMarked callOfAMethodObject f p x.kw
    | .machine, false => call f p x.kw
    | _, _ => operate (f :: (if false then p.reverse else p) ++ x.kw.map (·.2)) (call f p x.kw)
  holding [r] point
  pure r
section
variable {prog : Program} {w : World} {A : Around} {E : Value → Shared → Prop} {s : Shared} {h₀ : Heap} {L : Addr} {m : Str → Option Value} {news news' : Led} {M D : Addr} {its : Array Value} {n : Nat} {Q : Value → Shared → Prop}
theorem callWith_rest {M' : Model} {pos : Pos} {args : List (Bool × Sem Value)} {f : Value} (hno : args.any (·.1) = false)
    (h : wpAny M' A (evalArgs f true args []) (fun x s₁ => wpAny M' A (restOfCall pos f args.length x) Q E s₁) E s) : wpAny M' A (callWith pos f [] args []) Q E s := by
  unfold callWith
  refine wpAny_bind (wpAny_holding (wpAny_mono h (fun x s₁ h₁ => ?_) fun _ _ x => x))
  unfold restOfCall at h₁
  rw [hno]
  exact h₁
theorem callWith_rest1 {M' : Model} {env : Env} {pos : Pos} {e : Expr} (_N : News h₀ L s.heap news) (_hm : (M, bmOf D) ∈ news)
    (h : wpAny M' A (spliced (backTo pos (starEach [e] env))) (fun vs s₁ => wpAny M' A (restOfCall pos (.ref M) 1 ⟨vs, []⟩) Q E s₁) E s)
    (he : starEach [e] env = (false, eval e env) :: starEach [] env := by rfl) :
    wpAny M' A (callWith pos (.ref M) [] (backTo pos (starEach [e] env)) []) Q E s := by
  rw [he] at h ⊢
  exact callWith_rest (args := [_]) rfl (evalArgs_plain h)
theorem rest_bm {pos : Pos} {na : Nat} {x : Value} (F : Fr h₀ L s.heap m) (N : News h₀ L s.heap news) (hm : (M, bmOf D) ∈ news) (U : Upd D (listOf its n) (listOf (its.push x) (n + 1)) news news')
    (h : ∀ h', Fr h₀ L h' m → News h₀ L h' news' → Q .none { s with heap := h' }) (hsz : its.size ≤ sizeLine) : wpAny (model prog w) A (restOfCall pos (.ref M) na ⟨[x], []⟩) Q E s := by
  unfold restOfCall
  refine wpAny_bind (wpAny_standAt ?_)
  refine wpAny_bind (m := keeperOf (.ref M)) ?_
  unfold keeperOf
  refine wpAny_bind (wpAny_load (N _ hm).1 ?_)
  show wpAny _ _ (pure Keeper.machine) _ _ _
  refine wpAny_pure ?_
  dsimp only [List.nil_append]
  refine wpAny_bind (bm_app F N hm U (fun h' F' N' => ?_) hsz)
  exact wpAny_bind (wpAny_holding (wpAny_point (wpAny_pure (h h' F' N'))))
end
end Mine
end PartLst
section PartTrW
open PySem PySem.Spec PySem.W PyProof.Rows PySem.Calls
set_option Elab.async false
set_option maxRecDepth 100000
namespace Mine
theorem fill_TrW (w : World) : (fun (_ : Program) (_ : Frag) => True) PySem.Challenge.rw_kq0062_01.row.prog (hd.heap_1 w.params) := by
  k_fill
  trivial
/-- the pattern: a star ahead of each sign and behind the last -/
noncomputable def patL : List Nat → List Nat
  | [] => [42]
  | c :: r => 42 :: c :: patL r
noncomputable def patOf (sg : List Nat) : Str := ⟨(patL sg).toArray⟩
theorem patL_len : ∀ sg : List Nat, (patL sg).length = 2 * sg.length + 1
  | [] => rfl
  | c :: r => by simp only [patL, List.length_cons, patL_len r]; omega
noncomputable def Held (P : Prop) : Prop := P
theorem Held.out {P : Prop} (h : Held P) : P := h
structure TrS where
  i : Nat
  ti : Tok
  vs : List Value
  n : Nat
noncomputable def signV (S : Addr) (v : Value) (c : Nat) : Prop := (c = 42 ∧ v = .ref S) ∨ (c ≠ 42 ∧ ∃ t, v = .str (escC c) t)
inductive Signs (S : Addr) : List Value → List Nat → Prop where
  | nil : Signs S [] []
  | snoc {vs l v c} : Signs S vs l → signV S v c → Signs S (vs ++ [v]) (l ++ [c])
noncomputable def TrP (S : Addr) (sg : List Nat) (c : TrS) : Prop := c.i ≤ (patL sg).length ∧ Signs S c.vs ((patL sg).take c.i)
theorem Signs.length {S : Addr} {vs : List Value} {l : List Nat} (h : Signs S vs l) : vs.length = l.length := by
  induction h with
  | nil => rfl
  | snoc _ _ ih => simp [ih]
theorem Signs.last {S : Addr} {vs : List Value} {l : List Nat} {c : Nat} (h : Signs S vs (l ++ [c])) : ∃ us v, vs = us ++ [v] ∧ signV S v c := by
  generalize e : l ++ [c] = l' at h
  cases h with
  | nil => simp at e
  | snoc h hv =>
    obtain ⟨rfl, e2⟩ := List.append_inj' e rfl
    cases e2
    exact ⟨_, _, rfl, hv⟩
/-- two neighbours: a sign's neighbour ahead of a star is no star -/
theorem patL_near : ∀ (sg : List Nat) (i : Nat), (∀ c ∈ sg, c ≠ 42) → i + 1 < (patL sg).length → (patL sg)[i]? = some 42 → (patL sg)[i + 1]? ≠ some 42
  | [], i, _, hi, _ => by simp [patL] at hi
  | c :: r, 0, h, _, _ => by simp [patL]; exact h c (.head _)
  | c :: r, 1, h, _, e => by simp [patL] at e; exact absurd e (h c (.head _))
  | c :: r, i + 2, h, hi, e => by
    simp only [patL, List.getElem?_cons_succ] at e ⊢
    exact patL_near r i (fun x hx => h x (.tail _ hx)) (by simp [patL] at hi; omega) e
theorem patL_ok : ∀ (sg : List Nat) (i : Nat) (c : Nat), (∀ c ∈ sg, okc c) → (patL sg)[i]? = some c → c = 42 ∨ okc c
  | [], i, c, _, e => by
    cases i with
    | zero => simp [patL] at e; exact .inl e.symm
    | succ i => simp [patL] at e
  | d :: r, 0, c, _, e => by simp [patL] at e; exact .inl e.symm
  | d :: r, 1, c, h, e => by simp [patL] at e; exact .inr (e ▸ h d (.head _))
  | d :: r, i + 2, c, h, e => by
    simp only [patL, List.getElem?_cons_succ] at e
    exact patL_ok r i c (fun x hx => h x (.tail _ hx)) e
noncomputable def itemIs (x : Str) (i : Int) (c : Nat) : Prop := (Txt.item x i).cps.toList = [c]
theorem item_pat {sg : List Nat} {i d : Nat} (h : (patL sg)[i]? = some d) : Txt.item (patOf sg) (i : Int) = ⟨#[d]⟩ := by
  obtain ⟨hlt, e⟩ := List.getElem?_eq_some_iff.mp h
  have hl : (patOf sg).length = (patL sg).length := List.size_toArray ..
  rw [PyProof.Rows.item_at (n := i) (by omega) (by rw [hl]; omega) (by simp)]
  show (⟨#[(patL sg).toArray.getD i 0]⟩ : Str) = _
  have : (patL sg).toArray.getD i 0 = d := by
    rw [Array.getD_eq_getD_getElem?]; simp [h]
  rw [this]
structure At42 (sg : List Nat) (i : Nat) : Prop where
  lt : (i : Int) < (patOf sg).length
  q1 : ((Txt.item (patOf sg) (i : Int)).cps.toList == (Str.ofString "*").cps.toList) = true
structure AtC (sg : List Nat) (i d : Nat) : Prop where
  lt : (i : Int) < (patOf sg).length
  it : Txt.item (patOf sg) (i : Int) = ⟨#[d]⟩
  lt128 : d < 128
  q1 : ((Txt.item (patOf sg) (i : Int)).cps.toList == (Str.ofString "*").cps.toList) = false
  q2 : ((Txt.item (patOf sg) (i : Int)).cps.toList == (Str.ofString "?").cps.toList) = false
  q3 : ((Txt.item (patOf sg) (i : Int)).cps.toList == (Str.ofString "[").cps.toList) = false
theorem okc_not {d : Nat} (h : okc d) : d ≠ 42 ∧ d ≠ 63 ∧ d ≠ 91 ∧ d < 128 := by
  unfold okc at h
  simp only [Bool.or_eq_true, Bool.and_eq_true, decide_eq_true_eq, beq_iff_eq] at h
  omega
theorem one_ne {d e : Nat} (h : d ≠ e) : ([d] == [e]) = false := by simp [h]
theorem atC {sg : List Nat} {i d : Nat} (h : (patL sg)[i]? = some d) (hd : okc d) : AtC sg i d := by
  obtain ⟨hlt, e⟩ := List.getElem?_eq_some_iff.mp h
  have hl : (patOf sg).length = (patL sg).length := List.size_toArray ..
  have hi := item_pat h
  obtain ⟨n1, n2, n3, n4⟩ := okc_not hd
  exact ⟨by rw [hl]; omega, hi, n4, by rw [hi]; exact one_ne n1, by rw [hi]; exact one_ne n2, by rw [hi]; exact one_ne n3⟩
theorem at42 {sg : List Nat} {i : Nat} (h : (patL sg)[i]? = some 42) : At42 sg i := by
  obtain ⟨hlt, e⟩ := List.getElem?_eq_some_iff.mp h
  have hl : (patOf sg).length = (patL sg).length := List.size_toArray ..
  exact ⟨by rw [hl]; omega, by rw [item_pat h]; decide⟩
theorem take_snoc {l : List Nat} {i d : Nat} (h : l[i]? = some d) : l.take (i + 1) = l.take i ++ [d] := by
  rw [List.take_add_one, h]; rfl
theorem tr_case {S : Addr} {sg : List Nat} {i : Nat} {vs : List Value} (hs : ∀ c ∈ sg, okc c) (hi : i ≤ (patL sg).length) (hsg : Signs S vs ((patL sg).take i)) :
    (i = (patL sg).length) ∨ ((patL sg)[i]? = some 42 ∧ vs = []) ∨ ((patL sg)[i]? = some 42 ∧ ∃ us x t, vs = us ++ [.str x t]) ∨ (∃ d, (patL sg)[i]? = some d ∧ okc d) := by
  rcases Nat.lt_or_ge i (patL sg).length with hlt | hge
  · have e : (patL sg)[i]? = some (patL sg)[i] := List.getElem?_eq_getElem hlt
    rcases patL_ok sg i _ hs e with h42 | hok
    · rw [h42] at e
      cases i with
      | zero =>
        have hv : vs = [] := List.length_eq_zero_iff.mp (by have := hsg.length; simpa using this)
        exact .inr (.inl ⟨e, hv⟩)
      | succ i =>
        have e2 : (patL sg)[i]? = some (patL sg)[i] := List.getElem?_eq_getElem (by omega)
        have hn : (patL sg)[i] ≠ 42 := fun h => patL_near sg i (fun c hc => (okc_not (hs c hc)).1) hlt (by rw [e2, h]) e
        rw [take_snoc e2] at hsg
        obtain ⟨us, v, rfl, hv⟩ := hsg.last
        rcases hv with ⟨h, _⟩ | ⟨_, t, rfl⟩
        · exact absurd h hn
        · exact .inr (.inr (.inl ⟨e, us, _, t, rfl⟩))
    · exact .inr (.inr (.inr ⟨_, e, hok⟩))
  · exact .inl (by omega)
theorem trp_next {S : Addr} {sg : List Nat} {i d : Nat} {ti : Tok} {n : Nat} {vs : List Value} {v : Value} (h : (patL sg)[i]? = some d) (hsg : Signs S vs ((patL sg).take i)) (hv : signV S v d) : TrP S sg ⟨i + 1, ti, vs ++ [v], n⟩ := by
  obtain ⟨hlt, e⟩ := List.getElem?_eq_some_iff.mp h
  refine ⟨hlt, ?_⟩
  show Signs S (vs ++ [v]) ((patL sg).take (i + 1))
  rw [take_snoc h]
  exact .snoc hsg hv
noncomputable def TrPost (S : Addr) (sg : List Nat) (tl : Led) (v : Value) : Prop := ∃ M R vs n, v = .ref R ∧ tl = [(M, bmOf R), (R, listOf vs.toArray n)] ∧ Signs S vs (patL sg)
theorem tr_fin {g : Heap} {L' S M R : Addr} {o : Obj} {s : Shared} {sg : List Nat} {h' : Heap} {tk' : Nat} {m' : Str → Option Value} {vs : List Value} {n i : Nat} (F : Fr g L' h' m') (N : News g L' h' [(M, bmOf R), (R, listOf vs.toArray n), (S, o)])
    (h1 : S < M) (h2 : S < R) (hi : i = (patL sg).length) (hs : Signs S vs ((patL sg).take i)) : Fin g L' [(S, o)] (TrPost S sg) s (.ret (.ref R)) { s with heap := h', toks := tk' } := by
  refine ⟨[(M, bmOf R), (R, listOf vs.toArray n)], m', h', tk', rfl, F, N, ?_, M, R, vs, n, rfl, rfl, ?_⟩
  · intro q hq p hp
    rcases List.mem_singleton.mp hq with rfl
    simp only [List.mem_cons, List.not_mem_nil, or_false] at hp
    rcases hp with rfl | rfl
    · exact Nat.ne_of_lt h1
    · exact Nat.ne_of_lt h2
  · subst hi
    rwa [List.take_length] at hs
theorem tr_end {h₀ : Heap} {L S M R : Addr} {o : Obj} {s : Shared} {sg : List Nat} {h' : Heap} {tk' : Nat} {m₀ m' : Str → Option Value} {vs : List Value} {n i d : Nat} {ti : Tok} {v : Value} {c : TrS} {A : Array Value} (F : Fr h₀ L h' m') (N : News h₀ L h' [(M, bmOf R), (R, listOf A (n + 1)), (S, o)])
    (eA : A = (vs ++ [v]).toArray)
    (e1 : m' (Str.ofString "i") = some (.int ((i : Int) + 1) ti)) (hr : ∀ z, z ≠ Str.ofString "i" → z ≠ Str.ofString "c" → m' z = m₀ z) (hd : (patL sg)[i]? = some d) (hs : Signs S vs ((patL sg).take i)) (hv : signV S v d) (hc : c.i = i) :
    KswEnd h₀ L s (fun c : TrS => [(M, bmOf R), (R, listOf c.vs.toArray c.n), (S, o)]) (fun c : TrS => [(Str.ofString "i", .int (c.i : Int) c.ti)]) (fun _ => True) [Str.ofString "c"] m₀ (TrP S sg) (fun c => (patL sg).length - c.i) c { s with heap := h', toks := tk' } := by
  subst eA
  refine ksw_end ⟨i + 1, ti, vs ++ [v], n + 1⟩ F N (fun p hp => hp) trivial (List.forall_mem_cons.mpr ⟨e1, List.forall_mem_nil _⟩) (fun z h1 h2 => hr z (h1 _ (.head _)) (by simpa using h2)) (trp_next hd hs hv) ?_
  obtain ⟨hlt, _⟩ := List.getElem?_eq_some_iff.mp hd
  show (patL sg).length - (i + 1) < (patL sg).length - c.i
  omega
local macro_rules | `(tactic| walk_at "getAttr ref") => `(tactic| (k_here; k_dflt (refine' bm_get ?F ?N ?e ?_; (case F => k_asm); (case N => k_asm); (case e => exact List.mem_cons_self); intro q' h' k' F' N' l1; (try k_lt l1); (try k_sweep))))
local macro_rules | `(tactic| walk_at "call ref") => `(tactic| (k_here; k_dflt (first | (refine' ct_use (esc_ct _ _ _ (by assumption)) ?k1 ?k2 ?k3 ?k4 ?k5 ?k6 ?k7 ?k8 ?k9 ?_)); (case k1 => k_asm); (case k2 => k_asm); (case k3 => k_asm); (case k4 => k_asm); (case k5 => k_asm); (case k6 => (first | exact rfl | assumption)); (case k7 => (first | (intro q hq; cases hq; done) | (exact List.forall_mem_nil _) | (k_allIn; done))); (case k8 => ktr_room); (case k9 => ktr_units); intro v9 tl9 h9 tk9 F9 N9 ne9 hp9; (first | (obtain ⟨e9, t9, e9'⟩ := hp9; subst e9 e9') | (obtain ⟨e9, e9'⟩ := hp9; subst e9 e9')); (try simp only [List.nil_append] at N9); clear ne9; (try dsimp only); (try k_fold)))
local macro_rules | `(tactic| walk_at "call ref") => `(tactic| (k_here; (with_reducible rename Txt.item _ _ = _ => hit'); rw [hit']))
local macro_rules | `(tactic| walk_at "callWith") => `(tactic| (k_here; k_dflt (refine' callWith_rest1 ?N ?e ?_ ?he; (case N => k_asm); (case e => exact List.mem_cons_self); (case he => exact rfl))))
local macro_rules | `(tactic| walk_at "restOfCall") => `(tactic| (k_here; k_dflt (refine' rest_bm ?F ?N ?e ?U ?_ ?z; (case F => k_asm); (case N => k_asm); (case e => exact List.mem_cons_self); (case U => k_upd); (case z => (first | (rw [List.size_toArray, sizeLine_eq]; omega) | (rw [sizeLine_eq]; decide))); intro h' F' N'; (try k_sweep))))
local macro_rules | `(tactic| walk_at "compareOp IsNot") => `(tactic| (k_here; refine isNot_str_ref ?_))
local macro_rules | `(tactic| walk_at "truthy ref") => `(tactic| (k_here; k_dflt (first | (refine' lst_truthy1 ?N ?e ?z ?_; (case N => k_asm); (case e => exact List.mem_cons_of_mem _ List.mem_cons_self); (case z => omega)) | (refine' lst_truthy (vs := []) ?N ?e ?z ?_; (case N => k_asm); (case e => exact List.mem_cons_of_mem _ List.mem_cons_self); (case z => decide))); intro k'))
local macro_rules | `(tactic| walk_at "compareOp Eq str str") => `(tactic| (k_here; k_dflt (refine' cmp_str ?b ?_; (case b => assumption))))
local macro_rules | `(tactic| walk_at "subscriptTail") => `(tactic| (k_here; (with_reducible show wpAny _ _ (subscriptTail _ _ (Value.ref _) (Value.int _ _)) _ _ _); k_dflt (refine' lst_last ?N ?e ?_; (case N => k_asm); (case e => exact List.mem_cons_of_mem _ List.mem_cons_self))))
local macro_rules | `(tactic| walk_at "last exec While") => `(tactic| (k_here; refine Held.out ?_))
local macro_rules | `(tactic| walk_at "exec While") => `(tactic| (k_here; refine Held.out ?_))
set_option maxHeartbeats 0 in
theorem tr_ct (w : World) (sg : List Nat) (S : Addr) (o : Obj) (t tq : Tok) (hs : ∀ c ∈ sg, okc c) (hl : sg.length ≤ 100) : Ct w 167 [.str (patOf sg) t, .ref S, .str (Str.ofString ".") tq] [] 4 40 [(S, o)] (TrPost S sg) := by
  have hlen : (patOf sg).length ≤ 100000 := by
    show (patL sg).toArray.size ≤ _
    rw [List.size_toArray, patL_len]; omega
  refine' ct_intro (binds := [(Str.ofString "pat", .str (patOf sg) t), (Str.ofString "STAR", .ref S), (Str.ofString "QUESTION_MARK", .str (Str.ofString ".") tq)]) ?ho ?hcd ?hb ?hl ?hc ?hco ?hg ?hk ?hdd ?body
  case ho => k_is
  case hcd => k_is
  case hb => exact fun s X => BindsTo.of_eq rfl
  case hl => exact rfl
  case hc => decide
  case hco => exact rfl
  case hg => exact rfl
  case hk => exact rfl
  case hdd => decide
  intro p loose mean mg mb dp un gd cn cs a ccd cl outer base g L L' s B F X N T hlt hd hu
  k_fold
  k_steps
  rename Fr _ _ _ _ => lF
  rename News _ _ _ _ => lN
  replace lN := News.tail' lN
  unfold Held
  with_unfolding_all refine' ksw_while (fun c : TrS => [_, (_, listOf c.vs.toArray c.n), _]) (fun c => [(Str.ofString "i", .int (c.i : Int) c.ti)]) (fun _ => True) [Str.ofString "c"] (TrP S sg) (fun c => (patL sg).length - c.i) ⟨0, _, [], 0⟩ lF lN trivial ?kk ?kp ?turn
  case kk => exact List.forall_mem_cons.mpr ⟨by with_unfolding_all rfl, List.forall_mem_nil _⟩
  case kp => exact ⟨Nat.zero_le _, .nil⟩
  case turn =>
    clear lF lN
    rintro ⟨i, ti, vs, k⟩ u h tk - ⟨hi, hsg⟩ lF lN
    dsimp only at hi hsg lF lN
    k_fold
    have hvl : vs.length ≤ 1000 := by rw [hsg.length, List.length_take]; have := patL_len sg; omega
    have hpl : (patOf sg).length = (patL sg).length := List.size_toArray ..
    rcases tr_case hs hi hsg with hc | ⟨hc, hv⟩ | ⟨hc, us, x, t0, hv⟩ | ⟨d, hc, hd⟩
    · k_steps
      with_unfolding_all refine tr_fin lF lN ?_ ?_ hc hsg
      all_goals first | assumption | omega | exact And.right (by assumption)
    · subst hv
      obtain ⟨hlt', q1⟩ := at42 hc
      k_steps
      rename Fr _ _ _ _ => F'
      rename News _ _ _ _ => N'
      with_unfolding_all refine tr_end (i := i) F' N' (by rfl) rfl ?_ hc hsg (.inl ⟨rfl, rfl⟩) rfl
      intro z e1 e2
      simp only [kstB, e1, e2, if_false, List.contains_cons, List.contains_nil, beq_eq_false_iff_ne.mpr e2, Bool.or_false, Bool.false_eq_true]
    · subst hv
      obtain ⟨hlt', q1⟩ := at42 hc
      k_steps
      rename Fr _ _ _ _ => F'
      rename News _ _ _ _ => N'
      with_unfolding_all refine tr_end (i := i) F' N' (by rw [List.push_toArray]) rfl ?_ hc hsg (.inl ⟨rfl, rfl⟩) rfl
      intro z e1 e2
      simp only [kstB, e1, e2, if_false, List.contains_cons, List.contains_nil, beq_eq_false_iff_ne.mpr e2, Bool.or_false, Bool.false_eq_true]
    · obtain ⟨hlt', hit, h128, q1, q2, q3⟩ := atC hc hd
      k_steps
      rename Fr _ _ _ _ => F'
      rename News _ _ _ _ => N'
      with_unfolding_all refine tr_end (i := i) F' N' (by rw [List.push_toArray]) rfl ?_ hc hsg (.inr ⟨(okc_not hd).1, _, rfl⟩) rfl
      intro z e1 e2
      simp only [kstB, e1, e2, if_false, List.contains_cons, List.contains_nil, beq_eq_false_iff_ne.mpr e2, Bool.or_false, Bool.false_eq_true]
end Mine
end PartTrW
section PartObjC
set_option maxRecDepth 100000
set_option Elab.async false
namespace Mine
open PySem PySem.Spec PySem.W PyProof.Rows PySem.Calls PySem.Builtin
namespace MF
theorem mro_object : mroOf (.type "object") = pure [.type "object"] := by kernel_rfl
theorem lookup_object_new : typeLookup (.type "object") "__new__" = pure (some (.builtin "object.__new__")) := by rw [typeLookup_type, builtinLookup_eq_fast]; kernel_rfl
theorem slot_object_init : Slot "object" "__init__" "object.__init__" :=
  .of (owner := "object") (n := "__init__") (by rw [typeLookup_type, builtinLookup_eq_fast]; kernel_rfl) (by decide +kernel) (by decide +kernel) (by decide +kernel)
    (by first | exact .inl (by decide +kernel) | exact .inr (by decide +kernel)) (by rw [isSubtype_type]; kernel_rfl)
theorem called_object : TypeCalled "object" "object.__new__" "object.__init__" :=
  ⟨by decide +kernel, by decide +kernel, ⟨_, _, mro_object⟩, madeBy_type mro_object lookup_object_new (by decide +kernel), by decide +kernel, by rw [isSubtype_type]; kernel_rfl, slot_object_init⟩
theorem typeCall_object : checkTypeCall "object" ⟨[], []⟩ = pure () := by kernel_rfl
theorem newCall_object : checkBuiltinCall "object.__new__" ⟨[.type "object"], []⟩ = pure () := by kernel_rfl
theorem args_object_init (a : Value) : argsOk "object.__init__" ⟨[a], []⟩ := by unfold argsOk; kernel_rfl
theorem madeHere_object : Bind.madeHere "object.__new__" (.type "object") = pure () := by kernel_rfl
end MF
noncomputable def plainObj : Obj := { cls := .type "object", data := .plain }
theorem meets_object_new : Meets (Builtin.«object.__new__» ⟨[.type "object"], []⟩) (fun _ R s => R (.ok (.ret (.ref s.heap.objs.size))) { s with heap := s.heap.push plainObj }) :=
  Meets.of_wp fun prog w A R s hs => by
    have hmade := MF.madeHere_object
    have hm := MF.called_object.made
    obtain ⟨hp, g, d, tk, os⟩ := s
    unfold Builtin.«object.__new__»
    repeat (any_goals (first | assumption | wp_step))
    all_goals exact ⟨_, rfl, hs⟩
theorem meets_object_init {self : Value} : Meets (Builtin.«object.__init__» ⟨[self], []⟩) (fun _ R s => R (.ok (.ret .none)) s) :=
  Meets.of_wp fun prog w A R s hs => wpAny_pure ⟨_, rfl, hs⟩
section
variable {prog : Program} {w : World} {A : Around} {E : Value → Shared → Prop} {s : Shared} {h₀ : Heap} {L : Addr} {m : Str → Option Value} {news : Led} {Q : Value → Shared → Prop}
theorem call_object (h : Q (.ref s.heap.objs.size) { s with heap := s.heap.push plainObj }) : wpAny (model prog w) A (call (.type "object") []) Q E s :=
  callType_meets (Q₁ := fun obj s₁ => s₁.TypeIs obj "object" ∧ Q obj s₁) MF.called_object MF.typeCall_object MF.newCall_object F.entry_object_new F.entry_object_init meets_object_new ⟨⟨_, Heap.get?_push_size _ rfl, rfl⟩, h⟩ fun obj s₁ hq =>
    ⟨hq.1, MF.args_object_init obj, _, meets_object_init, ⟨rfl, hq.2⟩⟩
theorem object_K (F : Fr h₀ L s.heap m) (N : News h₀ L s.heap news) (h : ∀ q h', Fr h₀ L h' m → News h₀ L h' ((q, plainObj) :: news) → (∀ p ∈ news, p.1 < q) → Q (.ref q) { s with heap := h' }) : wpAny (model prog w) A (call (.type "object") []) Q E s :=
  call_object (h _ _ (F.push _) (N.push F _) fun p hp => Heap.lt_size (N p hp).1)
end
end Mine
end PartObjC
section PartJn
open PySem PySem.Spec PySem.W PyProof.Rows PySem.Calls
set_option Elab.async false
set_option maxRecDepth 100000
namespace Mine
theorem fill_Jn (w : World) : (fun (_ : Program) (_ : Frag) => True) PySem.Challenge.rw_kq0062_01.row.prog (hd.heap_1 w.params) := by
  k_fill
  trivial
theorem Signs.get {S : Addr} {vs : List Value} {l : List Nat} (h : Signs S vs l) : ∀ (i c : Nat), l[i]? = some c → ∃ v, vs[i]? = some v ∧ signV S v c := by
  induction h with
  | nil => intro i c e; simp at e
  | @snoc vs l v d h hv ih =>
    intro i c e
    have hlen := h.length
    rcases Nat.lt_trichotomy i l.length with h1 | h1 | h1
    · rw [List.getElem?_append_left h1] at e
      rw [List.getElem?_append_left (by omega)]
      exact ih i c e
    · subst h1
      simp at e
      subst e
      exact ⟨v, by rw [← hlen]; simp, hv⟩
    · rw [List.getElem?_eq_none (by simp; omega)] at e; cases e
theorem patL_even : ∀ (sg : List Nat) (k : Nat), k ≤ sg.length → (patL sg)[2 * k]? = some 42
  | [], 0, _ => rfl
  | _ :: _, 0, _ => rfl
  | c :: r, k + 1, h => by
    show (42 :: c :: patL r)[2 * k + 1 + 1]? = _
    simp only [List.getElem?_cons_succ]
    exact patL_even r k (by simpa using h)
theorem patL_odd : ∀ (sg : List Nat) (k c : Nat), sg[k]? = some c → (patL sg)[2 * k + 1]? = some c
  | [], k, c, h => by simp at h
  | d :: r, 0, c, h => by simpa [patL] using h
  | d :: r, k + 1, c, h => by
    show (42 :: d :: patL r)[2 * k + 1 + 1 + 1]? = _
    simp only [List.getElem?_cons_succ]
    exact patL_odd r k c (by simpa using h)
noncomputable def pieceC (c : Nat) : Str := Str.ofString "(?>.*?" ++ escC c ++ Str.ofString ")"
noncomputable def bodyOf (sg : List Nat) : Str := Txt.join (Str.ofString "") (sg.map pieceC ++ [Str.ofString ".*"])
structure JnS where
  k : Nat
  ti : Tok
  rs : List Value
  n : Nat
local macro_rules | `(tactic| walk_at "getAttr ref") => `(tactic| (k_here; k_dflt (refine' bm_get ?F ?N ?e ?_; (case F => k_asm); (case N => k_asm); (case e => exact List.mem_cons_self); intro q' h' k' F' N' l1; (try k_lt l1); (try k_sweep))))
local macro_rules | `(tactic| walk_at "callWith") => `(tactic| (k_here; k_dflt (refine' callWith_rest1 ?N ?e ?_ ?he; (case N => k_asm); (case e => (repeat first | exact List.mem_cons_self | apply List.mem_cons_of_mem)); (case he => exact rfl))))
local macro_rules | `(tactic| walk_at "restOfCall") => `(tactic| (k_here; k_dflt (refine' rest_bm ?F ?N ?e ?U ?_ ?z; (case F => k_asm); (case N => k_asm); (case e => (repeat first | exact List.mem_cons_self | apply List.mem_cons_of_mem)); (case U => k_upd); (case z => (first | (rw [List.size_toArray, sizeLine_eq]; omega) | (rw [sizeLine_eq]; decide))); intro h' F' N'; (try k_sweep))))
local macro_rules | `(tactic| walk_at "compareOp IsNot") => `(tactic| (k_here; first | refine isNot_str_ref ?_ | refine isNot_ref_same ?_))
local macro_rules | `(tactic| walk_at "subscriptTail") => `(tactic| (k_here; (with_reducible show wpAny _ _ (subscriptTail _ _ (Value.ref _) (Value.int _ _)) _ _ _); k_dflt (refine' lst_item ?N ?e ?z ?f ?x ?_; (case N => k_asm); (case e => (repeat first | exact List.mem_cons_self | apply List.mem_cons_of_mem)); (case z => omega); (case f => omega); (case x => assumption))))
local macro_rules | `(tactic| walk_at "call builtin:len") => `(tactic| (k_here; (with_reducible show wpAny _ _ (call (Value.builtin _) [Value.ref _]) _ _ _); k_dflt (refine' lst_len ?N ?e ?k ?f ?_; (case N => k_asm); (case e => (repeat first | exact List.mem_cons_self | apply List.mem_cons_of_mem)); (case k => assumption); (case f => omega); intro _ _)))
local macro_rules | `(tactic| walk_at "last exec While") => `(tactic| (k_here; (with_reducible show wpAny _ _ (exec (Stmt.While (Expr.Compare _ _ _ _) _ _ _) _) _ _ _); refine Held.out ?_))
local macro_rules | `(tactic| walk_at "exec While") => `(tactic| (k_here; (with_reducible show wpAny _ _ (exec (Stmt.While (Expr.Compare _ _ _ _) _ _ _) _) _ _ _); refine Held.out ?_))
local macro_rules | `(tactic| walk_at "exec While") => `(tactic| (k_here; (with_reducible show wpAny _ _ (exec (Stmt.While (Expr.BoolOp _ _ _) _ _ _) _) _ _ _); refine whl_start 100 ?_))
local macro_rules | `(tactic| walk_at "compareOp Eq int int") => `(tactic| (k_here; first | (refine cmp_int_eq (by omega) ?_) | (refine cmp_int_ne (by omega) ?_)))
noncomputable def trText (sg : List Nat) : Str := Str.ofString "(?s:" ++ bodyOf sg ++ Str.ofString ")\\Z"
noncomputable def JnPost (sg : List Nat) (tl : Led) (v : Value) : Prop := tl = [] ∧ ∃ t, v = .str (trText sg) t
theorem escC_len (c : Nat) : (escC c).length ≤ 2 := by
  unfold escC
  split
  · exact Nat.le_refl 2
  · exact Nat.le_succ 1
theorem pieceC_len (c : Nat) : (pieceC c).length ≤ 9 := by
  have := escC_len c
  unfold pieceC
  rw [strLen_append, strLen_append]
  have e1 : (Str.ofString "(?>.*?").length = 6 := by decide
  have e2 : (Str.ofString ")").length = 1 := by decide
  omega
theorem pieces_weight : ∀ l : List Nat, ((l.map pieceC).map (·.length)).sum ≤ 9 * l.length
  | [] => Nat.le_refl _
  | c :: r => by
    have h1 := pieceC_len c
    have h2 := pieces_weight r
    simp only [List.map_cons, List.sum_cons, List.length_cons] at h2 ⊢
    omega
theorem strs_snoc : ∀ {vs : List Value} {ys : List Str} (y : Str) (t : Tok), StrsAre vs ys → StrsAre (vs ++ [.str y t]) (ys ++ [y])
  | _, _, y, t, .nil => .cons y t .nil
  | _, _, y, t, .cons a ta h => .cons a ta (strs_snoc y t h)
theorem strs_push {vs : List Value} {ys : List Str} {y : Str} {t : Tok} (h : StrsAre vs ys) : StrsAre (vs.toArray.push (.str y t)).toList (ys ++ [y]) := by
  rw [List.push_toArray]
  exact strs_snoc y t h
theorem sign42 {S : Addr} {v : Value} (h : signV S v 42) : v = .ref S := by
  rcases h with ⟨_, h⟩ | ⟨h, _⟩
  · exact h
  · exact absurd rfl h
theorem signC {S : Addr} {v : Value} {c : Nat} (hc : c ≠ 42) (h : signV S v c) : ∃ t, v = .str (escC c) t := by
  rcases h with ⟨h, _⟩ | ⟨_, h⟩
  · exact absurd h hc
  · exact h
theorem jn_at {S : Addr} {vs : List Value} {sg : List Nat} (hv : Signs S vs (patL sg)) {k : Nat} (hk : k ≤ sg.length) : vs[2 * k]? = some (.ref S) := by
  obtain ⟨v, e, h⟩ := hv.get _ _ (patL_even sg k hk)
  rw [e, sign42 h]
theorem jn_of {S : Addr} {vs : List Value} {sg : List Nat} (hv : Signs S vs (patL sg)) {k c : Nat} (hk : sg[k]? = some c) (hc : c ≠ 42) : ∃ t, vs[2 * k + 1]? = some (.str (escC c) t) := by
  obtain ⟨v, e, h⟩ := hv.get _ _ (patL_odd sg k c hk)
  obtain ⟨t, rfl⟩ := signC hc h
  exact ⟨t, e⟩
theorem joined_len : ∀ l : List Str, (Txt.join (Str.ofString "") l).length ≤ (l.map (·.length)).sum
  | [] => Nat.le_refl 0
  | a :: r => by
    unfold Txt.join
    rw [StrLaws.glued_eq_join, PyProof.Rows.len_join_cons]
    have e : (Str.ofString "").length = 0 := rfl
    rw [e]
    omega
theorem jn_end {h₀ : Heap} {L S M R I : Addr} {o o2 : Obj} {s : Shared} {sg : List Nat} {h' : Heap} {tk' : Nat} {m₀ m' : Str → Option Value} {rs : List Value} {n k d : Nat} {ti t : Tok} {c : JnS} {z : Str} {x : Addr × Obj} (F : Fr h₀ L h' m') (N : News h₀ L h' [x, (M, bmOf R), (R, listOf (rs.toArray.push (.str z t)) (n + 1)), (I, o2), (S, o)])
    (ez : z = pieceC d)
    (e1 : m' (Str.ofString "i") = some (.int (((2 * k : Nat) : Int) + 1 + 1) ti)) (hr : ∀ z, z ≠ Str.ofString "i" → z ≠ Str.ofString "fixed" → m' z = m₀ z) (hd : sg[k]? = some d) (hs : StrsAre rs ((sg.take k).map pieceC)) (hc : c.k = k) :
    KswEnd h₀ L s (fun c : JnS => [(M, bmOf R), (R, listOf c.rs.toArray c.n), (I, o2), (S, o)]) (fun c : JnS => [(Str.ofString "i", .int ((2 * c.k : Nat) : Int) c.ti)]) (fun _ => True) [Str.ofString "fixed"] m₀ (fun c => c.k ≤ sg.length ∧ StrsAre c.rs ((sg.take c.k).map pieceC)) (fun c => sg.length - c.k) c { s with heap := h', toks := tk' } := by
  subst ez
  obtain ⟨hlt, _⟩ := List.getElem?_eq_some_iff.mp hd
  have N' := News.tail' N
  rw [List.push_toArray] at N'
  refine ksw_end ⟨k + 1, ti, rs ++ [.str (pieceC d) t], n + 1⟩ F N' (fun p hp => hp) trivial (List.forall_mem_cons.mpr ⟨?_, List.forall_mem_nil _⟩) (fun z h1 h2 => hr z (h1 _ (.head _)) (by simpa using h2)) ⟨hlt, ?_⟩ ?_
  · show m' (Str.ofString "i") = some (.int ((2 * (k + 1) : Nat) : Int) ti)
    rw [e1]
    congr 2
  · show StrsAre (rs ++ [.str (pieceC d) t]) ((sg.take (k + 1)).map pieceC)
    rw [take_snoc hd, List.map_append]
    exact strs_snoc _ _ hs
  · show sg.length - (k + 1) < sg.length - c.k
    omega
theorem jn_fin {g : Heap} {L' S I : Addr} {o o2 : Obj} {s : Shared} {sg : List Nat} {h' : Heap} {tk' : Nat} {m' : Str → Option Value} {x y : Addr × Obj} {z : Str} {t : Tok} (F : Fr g L' h' m') (N : News g L' h' [x, y, (I, o2), (S, o)]) (hz : z = trText sg) : Fin g L' [(I, o2), (S, o)] (JnPost sg) s (.ret (.str z t)) { s with heap := h', toks := tk' } := by
  subst hz
  exact ⟨[], m', h', tk', rfl, F, News.tail' (News.tail' N), by simp, rfl, t, rfl⟩
local macro_rules | `(tactic| walk_at "call builtin:str.join") => `(tactic| (k_here; (with_reducible show wpAny _ _ (call (Value.builtin _) [Value.str _ _, Value.ref _]) _ _ _); k_dflt (refine' lst_join ?N ?e ?y ?j ?sp ?ww ?_; (case N => k_asm); (case e => (repeat first | exact List.mem_cons_self | apply List.mem_cons_of_mem)); (case y => first | exact strs_push (by assumption) | exact .cons _ _ .nil); (case j => first | assumption | exact rfl); (case sp => decide); (case ww => first | assumption | (simp only [List.map_cons, List.map_nil, List.sum_cons, List.sum_nil, List.length_cons, List.length_nil]; omega)); intro _ _)))
local macro_rules | `(tactic| walk_at "last call builtin:str.join") => `(tactic| (k_here; (with_reducible show wpAny _ _ (call (Value.builtin _) [Value.str _ _, Value.ref _]) _ _ _); k_dflt (refine' lst_join ?N ?e ?y ?j ?sp ?ww ?_; (case N => k_asm); (case e => (repeat first | exact List.mem_cons_self | apply List.mem_cons_of_mem)); (case y => first | exact strs_push (by assumption) | exact .cons _ _ .nil); (case j => first | assumption | exact rfl); (case sp => decide); (case ww => first | assumption | (simp only [List.map_cons, List.map_nil, List.sum_cons, List.sum_nil, List.length_cons, List.length_nil]; omega)); intro _ _)))
set_option maxHeartbeats 0 in
theorem jn_ct (w : World) (sg : List Nat) (I S : Addr) (o : Obj) (vs : List Value) (n : Nat) (hv : Signs S vs (patL sg)) (hs : ∀ c ∈ sg, okc c) (hl : sg.length ≤ 100) : Ct w 174 [.ref I, .ref S] [] 4 40 [(I, listOf vs.toArray n), (S, o)] (JnPost sg) := by
  have hvl : vs.length = 2 * sg.length + 1 := hv.length.trans (patL_len sg)
  have hx0 : vs[(0 : Int).toNat]? = some (.ref S) := jn_at hv (Nat.zero_le _)
  refine' ct_intro (binds := [(Str.ofString "inp", .ref I), (Str.ofString "STAR", .ref S)]) ?ho ?hcd ?hb ?hl ?hc ?hco ?hg ?hk ?hdd ?body
  case ho => k_is
  case hcd => k_is
  case hb => exact fun s X => BindsTo.of_eq rfl
  case hl => exact rfl
  case hc => decide
  case hco => exact rfl
  case hg => exact rfl
  case hk => exact rfl
  case hdd => decide
  intro p loose mean mg mb dp un gd cn cs a ccd cl outer base g L L' s B F X N T hlt hd hu
  k_fold
  k_steps
  rename Fr _ _ _ _ => lF
  rename News _ _ _ _ => lN
  replace lN := News.tail' lN
  unfold Held
  with_unfolding_all refine' ksw_while (fun c : JnS => [_, (_, listOf c.rs.toArray c.n), (I, listOf vs.toArray n), (S, o)]) (fun c => [(Str.ofString "i", .int ((2 * c.k : Nat) : Int) c.ti)]) (fun _ => True) [Str.ofString "fixed"] (fun c => c.k ≤ sg.length ∧ StrsAre c.rs ((sg.take c.k).map pieceC)) (fun c => sg.length - c.k) ⟨0, _, [], 0⟩ lF lN trivial ?kk ?kp ?turn
  case kk => exact List.forall_mem_cons.mpr ⟨by with_unfolding_all rfl, List.forall_mem_nil _⟩
  case kp => exact ⟨Nat.zero_le _, .nil⟩
  case turn =>
    clear lF lN
    rintro ⟨k, ti, rs, n'⟩ u h tk - ⟨hi, hsg⟩ lF lN
    dsimp only at hi hsg lF lN
    k_fold
    have hrl : rs.length ≤ 100 := by rw [hsg.length, List.length_map, List.length_take]; omega
    have hy0 : vs[((2 * k : Nat) : Int).toNat]? = some (.ref S) := jn_at hv hi
    have hww2 : ((((sg.take k).map pieceC) ++ [Str.ofString ".*"]).map (·.length)).sum + (((sg.take k).map pieceC) ++ [Str.ofString ".*"]).length ≤ 1999 := by
      have h1 := pieces_weight (sg.take k)
      have h2 : (sg.take k).length ≤ 100 := by rw [List.length_take]; omega
      have h3 : (Str.ofString ".*").length = 2 := by decide
      rw [List.map_append, List.sum_append, List.length_append, List.length_map]
      simp only [List.map_cons, List.map_nil, List.sum_cons, List.sum_nil, List.length_cons, List.length_nil]
      omega
    have hww : ((((sg.take k).map pieceC) ++ [Str.ofString ".*"]).map (·.length)).sum + (((sg.take k).map pieceC) ++ [Str.ofString ".*"]).length ≤ 1048576 := by
      have h1 := pieces_weight (sg.take k)
      have h2 : (sg.take k).length ≤ 100 := by rw [List.length_take]; omega
      have h3 : (Str.ofString ".*").length = 2 := by decide
      rw [List.map_append, List.sum_append, List.length_append, List.length_map]
      simp only [List.map_cons, List.map_nil, List.sum_cons, List.sum_nil, List.length_cons, List.length_nil]
      omega
    rcases Nat.eq_or_lt_of_le hi with hk | hk
    · have hb : Txt.join (Str.ofString "") ((sg.take k).map pieceC ++ [Str.ofString ".*"]) = bodyOf sg := by rw [hk, List.take_length]; rfl
      have hbl : (bodyOf sg).length ≤ 2000 := by
        rw [← hb]
        exact Nat.le_trans (joined_len _) (Nat.le_trans (Nat.le_add_right _ _) (Nat.le_trans hww2 (by decide)))
      k_steps
      rename Fr _ _ _ _ => F'
      rename News _ _ _ _ => N'
      with_unfolding_all exact jn_fin F' N' rfl
    · obtain ⟨c, hc⟩ : ∃ c, sg[k]? = some c := ⟨_, List.getElem?_eq_getElem hk⟩
      have hcs : c ∈ sg := List.mem_of_getElem? hc
      obtain ⟨t1, h1⟩ := jn_of hv hc (okc_not (hs c hcs)).1
      have hy1 : vs[(((2 * k : Nat) : Int) + 1).toNat]? = some (.str (escC c) t1) := h1
      have hy2 : vs[(((2 * k : Nat) : Int) + 1 + 1).toNat]? = some (.ref S) := jn_at hv (k := k + 1) hk
      have hj1 : Txt.join (Str.ofString "") [escC c] = escC c := rfl
      have hec : (escC c).length ≤ 2 := escC_len c
      k_steps
      rename Fr _ _ _ _ => F'
      rename News _ _ _ _ => N'
      with_unfolding_all refine jn_end (k := k) (d := c) F' N' ?_ rfl ?_ hc hsg rfl
      · rfl
      · intro z e1 e2
        simp only [kstB, e1, e2, if_false, List.contains_cons, List.contains_nil, beq_eq_false_iff_ne.mpr e2, Bool.or_false, Bool.false_eq_true]
end Mine
end PartJn
section PartTra
open PySem PySem.Spec PySem.W PyProof.Rows PySem.Calls
set_option Elab.async false
set_option maxRecDepth 100000
namespace Mine
theorem fill_Tra (w : World) : (fun (_ : Program) (_ : Frag) => True) PySem.Challenge.rw_kq0062_01.row.prog (hd.heap_1 w.params) := by
  k_fill
  trivial
theorem jn_ct' {w : World} {sg : List Nat} {I S : Addr} {o : Obj} {vs : List Value} {n : Nat} (hv : Signs S vs (patL sg)) (hs : ∀ c ∈ sg, okc c) (hl : sg.length ≤ 100) : Ct w 174 [.ref I, .ref S] [] 4 40 [(I, listOf vs.toArray n), (S, o)] (JnPost sg) := jn_ct w sg I S o vs n hv hs hl
local macro_rules | `(tactic| walk_at "call type:object") => `(tactic| (k_here; k_dflt (refine' object_K ?F ?N ?_; (case F => k_asm); (case N => k_asm); intro q' h' F' N' l1; (try k_lt l1); (try k_sweep))))
local macro_rules | `(tactic| walk_at "call ref") => `(tactic| (k_here; k_dflt (refine' ct_use (tr_ct _ _ _ _ _ _ (by assumption) (by assumption)) ?k1 ?k2 ?k3 ?k4 ?k5 ?k6 ?k7 ?k8 ?k9 ?_); (case k1 => k_asm); (case k2 => k_asm); (case k3 => k_asm); (case k4 => k_asm); (case k5 => k_asm); (case k6 => (first | exact rfl | assumption)); (case k7 => (intro q hq; exact hq)); (case k8 => ktr_room); (case k9 => ktr_units); intro v9 tl9 h9 tk9 F9 N9 ne9 hp9; (obtain ⟨M9, R9, vs9, n9, e9, e9', hs9⟩ := hp9; subst e9 e9'); (try simp only [List.cons_append, List.nil_append] at N9); clear ne9; (try dsimp only); (try k_fold)))
local macro_rules | `(tactic| walk_at "call ref") => `(tactic| (k_here; k_dflt (refine' ct_use (jn_ct' (by assumption) (by assumption) (by assumption)) ?k1 ?k2 ?k3 ?k4 ?k5 ?k6 ?k7 ?k8 ?k9 ?_); (case k1 => k_asm); (case k2 => k_asm); (case k3 => k_asm); (case k4 => k_asm); (case k5 => k_asm); (case k6 => (first | exact rfl | assumption)); (case k7 => (intro q hq; exact List.mem_cons_of_mem _ hq)); (case k8 => ktr_room); (case k9 => ktr_units); intro v9 tl9 h9 tk9 F9 N9 ne9 hp9; (obtain ⟨e9, t9, e9'⟩ := hp9; subst e9 e9'); (try simp only [List.nil_append] at N9); clear ne9; (try dsimp only); (try k_fold)))
local macro_rules | `(tactic| walk_at "last call ref") => `(tactic| (k_here; k_dflt (refine' ct_use (jn_ct' (by assumption) (by assumption) (by assumption)) ?k1 ?k2 ?k3 ?k4 ?k5 ?k6 ?k7 ?k8 ?k9 ?_); (case k1 => k_asm); (case k2 => k_asm); (case k3 => k_asm); (case k4 => k_asm); (case k5 => k_asm); (case k6 => (first | exact rfl | assumption)); (case k7 => (intro q hq; exact List.mem_cons_of_mem _ hq)); (case k8 => ktr_room); (case k9 => ktr_units); intro v9 tl9 h9 tk9 F9 N9 ne9 hp9; (obtain ⟨e9, t9, e9'⟩ := hp9; subst e9 e9'); (try simp only [List.nil_append] at N9); clear ne9; (try dsimp only); (try k_fold)))
set_option maxHeartbeats 0 in
theorem tra_ct (w : World) (sg : List Nat) (t : Tok) (hs : ∀ c ∈ sg, okc c) (hl : sg.length ≤ 100) : Ct w 148 [.str (patOf sg) t] [] 6 60 [] (fun tl v => tl = [] ∧ ∃ t, v = .str (trText sg) t) := by
  refine' ct_intro (binds := [(Str.ofString "pat", .str (patOf sg) t)]) ?ho ?hcd ?hb ?hl ?hc ?hco ?hg ?hk ?hdd ?body
  case ho => k_is
  case hcd => k_is
  case hb => exact fun s X => BindsTo.of_eq rfl
  case hl => exact rfl
  case hc => decide
  case hco => exact rfl
  case hg => exact rfl
  case hk => exact rfl
  case hdd => decide
  intro p loose mean mg mb dp un gd cn cs a ccd cl outer base g L L' s B F X N T hlt hd hu
  k_fold
  k_steps
  rename Fr _ _ _ _ => F'
  rename News _ _ _ _ => N'
  exact ⟨[], _, _, _, rfl, F', News.nil, by simp, rfl, ⟨_, rfl⟩⟩
end Mine
end PartTra
section PartCmp
set_option maxRecDepth 100000
set_option Elab.async false
namespace Mine
open PySem PySem.Spec PySem.W PyProof.Rows PySem.Calls PyProof.Rows.LCg PyProof.Rows.LCt
theorem compEnd_mono {h₀ : Heap} {L : Addr} {m : Str → Option Value} {s₁ : Shared} {I : Addr} {oI : Obj} {C : Addr} {oC : Obj} {D : Addr} {oD : Obj} {S : Led → Prop} {K K' : Value → Led → Prop} (hK : ∀ y n, K y n → K' y n) {y : Value} {s₂ : Shared}
    (h : CompEnd h₀ L m s₁ I oI C oC D oD S K y s₂) : CompEnd h₀ L m s₁ I oI C oC D oD S K' y s₂ := by
  obtain ⟨h', tk, news', e, F, N, off, hS, r⟩ := h
  exact ⟨h', tk, news', e, F, N, off, hS, hK _ _ r⟩
section
variable {prog : Program} {w : World} {A : Around} {h₀ : Heap} {L : Addr} {m : Str → Option Value} {env : Env} {s : Shared}
/-- a comprehension over a list of any length: an invariant over the turns; the ledger stays -/
theorem comp_inv {elt : Expr} {x : Str} {scope : Scope} {cl : List (Str × Addr)} {S : Led → Prop} {P : Nat → Value → Prop} {Fin : List Value → Led → Prop} {n : Nat} {news : Led} (Inv : Nat → List Value → Prop) (h0 : Inv 0 []) (fin : ∀ ys, Inv n ys → Fin ys news)
    (turn : ∀ i ys v I oI C oC D m₂ h tk (E' : Value → Shared → Prop), i < n → Inv i ys → P i v → NsObj oC m₂ → m₂ x = some v → Fr h₀ L h m → News h₀ L h ((I, oI) :: (C, oC) :: (D, lst ys) :: news) → Off3 I C D news → ((@Ne Nat I C) ∧ (@Ne Nat I D) ∧ (@Ne Nat C D)) →
      wpAny (model prog w) A (eval elt (compEnvC scope cl C env)) (CompEnd h₀ L m { s with heap := h, toks := tk } I oI C oC D (lst ys) S (fun y news' => news' = news ∧ Inv (i + 1) (ys ++ [y]))) E' { s with heap := h, toks := tk }) :
    CompRest prog w A h₀ L m env elt x scope cl s S P Fin n 0 [] news := by
  have go : ∀ k i ys, i + k = n → Inv i ys → CompRest prog w A h₀ L m env elt x scope cl s S P Fin k i ys news := by
    intro k
    induction k with
    | zero => intro i ys e hI; exact CompRest.zero (fin ys ((show i = n by omega) ▸ hI))
    | succ k ih =>
      intro i ys e hI
      refine CompRest.succ fun v I oI C oC D m₂ h tk E' hP hns hx F N off ne => ?_
      refine wpAny_mono (turn i ys v I oI C oC D m₂ h tk E' (by omega) hI hP hns hx F N off ne) (fun y s' hc => compEnd_mono (fun y n' hy => ?_) hc) fun _ _ e => e
      obtain ⟨rfl, hI'⟩ := hy
      exact ih (i + 1) _ (by omega) hI'
  exact go n 0 [] (by omega) h0
theorem compT_inv {ct elt : Expr} {x : Str} {scope : Scope} {cl : List (Str × Addr)} {S : Led → Prop} {P : Nat → Value → Prop} {Fin : List Value → Led → Prop} {n : Nat} {news : Led} (Inv : Nat → List Value → Prop) (h0 : Inv 0 []) (fin : ∀ ys, Inv n ys → Fin ys news)
    (turn : ∀ i ys v I oI C oC D m₂ h tk (E' : Value → Shared → Prop), i < n → Inv i ys → P i v → NsObj oC m₂ → m₂ x = some v → Fr h₀ L h m → News h₀ L h ((I, oI) :: (C, oC) :: (D, lst ys) :: news) → Off3 I C D news → ((@Ne Nat I C) ∧ (@Ne Nat I D) ∧ (@Ne Nat C D)) →
      wpAny (model prog w) A (isTrue ct (compEnvC scope cl C env) (eval ct (compEnvC scope cl C env))) (fun ok s' => if ok = true then
        wpAny (model prog w) A (eval elt (compEnvC scope cl C env)) (CompEnd h₀ L m { s with heap := h, toks := tk } I oI C oC D (lst ys) S (fun y news' => news' = news ∧ Inv (i + 1) (ys ++ [y]))) E' s'
        else CompEnd h₀ L m { s with heap := h, toks := tk } I oI C oC D (lst ys) S (fun _ news' => news' = news ∧ Inv (i + 1) ys) Value.none s') E' { s with heap := h, toks := tk }) :
    CompRestT prog w A h₀ L m env ct elt x scope cl s S P Fin n 0 [] news := by
  have go : ∀ k i ys, i + k = n → Inv i ys → CompRestT prog w A h₀ L m env ct elt x scope cl s S P Fin k i ys news := by
    intro k
    induction k with
    | zero => intro i ys e hI; exact CompRestT.zero (fin ys ((show i = n by omega) ▸ hI))
    | succ k ih =>
      intro i ys e hI
      refine CompRestT.succ fun v I oI C oC D m₂ h tk E' hP hns hx F N off ne => ?_
      refine wpAny_mono (turn i ys v I oI C oC D m₂ h tk E' (by omega) hI hP hns hx F N off ne) (fun ok s' hc => ?_) fun _ _ e => e
      cases ok with
      | true =>
        simp only [if_true] at hc ⊢
        refine wpAny_mono hc (fun y s'' hc => compEnd_mono (fun y n' hy => ?_) hc) fun _ _ e => e
        obtain ⟨rfl, hI'⟩ := hy
        exact ih (i + 1) _ (by omega) hI'
      | false =>
        simp only [Bool.false_eq_true, if_false] at hc ⊢
        refine compEnd_mono (fun y n' hy => ?_) hc
        obtain ⟨rfl, hI'⟩ := hy
        exact ih (i + 1) _ (by omega) hI'
  exact go n 0 [] (by omega) h0
end
end Mine
end PartCmp
section PartLp
set_option maxRecDepth 100000
set_option Elab.async false
namespace Mine
open PySem PySem.Spec PySem.W PyProof.Rows PySem.Calls
/-- what a turn of a loop leaves: a state of one's own, its ledger, its names -/
noncomputable def LpEnd {σ : Type} (h₀ : Heap) (L : Addr) (s₁ : Shared) (I : Addr) (it : Obj) (Ld : σ → Led) (ps : σ → List (Str × Value)) (stored : List Str) (m₀ : Str → Option Value) (P : σ → Prop) (s₂ : Shared) : Prop :=
  ∃ (c : σ) (h' : Heap) (tk : Nat) (m' : Str → Option Value) (news' : Led), s₂ = { s₁ with heap := h', toks := tk } ∧ Fr h₀ L h' m' ∧ News h₀ L h' news' ∧ (∀ p ∈ (I, it) :: Ld c, p ∈ news') ∧ (∀ p ∈ Ld c, p.1 ≠ I) ∧
    (∀ p ∈ ps c, m' p.1 = some p.2) ∧ (∀ z, (∀ p ∈ ps c, z ≠ p.1) → stored.contains z = false → m' z = m₀ z) ∧ P c
noncomputable def LpPost {σ : Type} (h₀ : Heap) (L : Addr) (s₁ : Shared) (I : Addr) (it : Obj) (Ld : σ → Led) (ps : σ → List (Str × Value)) (stored : List Str) (m₀ : Str → Option Value) (P : σ → Prop) (Q : Flow → Shared → Prop) (f : Flow) (s₂ : Shared) : Prop :=
  match f with
  | .ret v => Q (.ret v) s₂
  | .brk => Q .next s₂
  | _ => LpEnd h₀ L s₁ I it Ld ps stored m₀ P s₂
theorem lp_end {σ : Type} {h₀ : Heap} {L : Addr} {s₁ : Shared} {I : Addr} {it : Obj} {Ld : σ → Led} {ps : σ → List (Str × Value)} {stored : List Str} {m₀ : Str → Option Value} {P : σ → Prop} (c : σ) {h' : Heap} {tk : Nat} {m' : Str → Option Value} {news' : Led}
    (F : Fr h₀ L h' m') (N : News h₀ L h' news') (hI : (I, it) ∈ news') (hs : ∀ p ∈ Ld c, p ∈ news') (ho : ∀ p ∈ Ld c, p.1 ≠ I) (hk : ∀ p ∈ ps c, m' p.1 = some p.2) (hr : ∀ z, (∀ p ∈ ps c, z ≠ p.1) → stored.contains z = false → m' z = m₀ z) (hp : P c) :
    LpEnd h₀ L s₁ I it Ld ps stored m₀ P { s₁ with heap := h', toks := tk } :=
  ⟨c, h', tk, m', news', rfl, F, N, fun p hp => (List.mem_cons.mp hp).elim (fun e => e ▸ hI) (hs p), ho, hk, hr, hp⟩
/-- the frame between two turns -/
noncomputable abbrev lpM {σ : Type} (ps : σ → List (Str × Value)) (stored : List Str) (m₀ u : Str → Option Value) (c : σ) : Str → Option Value := kstB (fun z => if stored.contains z then u z else m₀ z) (ps c)
section
variable {prog : Program} {w : World} {A : Around} {E : Value → Shared → Prop} {s : Shared} {env : Env} {h₀ : Heap} {x : Str} {target : Expr} {body : List Stmt} {Q : Flow → Shared → Prop}
theorem unrEnd_of_lp {σ : Type} {L : Addr} {s₁ s₂ : Shared} {I : Addr} {it : Obj} {Ld : σ → Led} {ps : σ → List (Str × Value)} {stored : List Str} {m₀ : Str → Option Value} {P : σ → Prop} {R : (Str → Option Value) → Led → Prop}
    (h : LpEnd h₀ L s₁ I it Ld ps stored m₀ P s₂) (hR : ∀ c m', (∀ p ∈ ps c, m' p.1 = some p.2) → (∀ z, (∀ p ∈ ps c, z ≠ p.1) → stored.contains z = false → m' z = m₀ z) → P c → R m' (Ld c)) : UnrEnd h₀ L s₁ I it R s₂ := by
  obtain ⟨c, h', tk, m', news', e, F, N, hs, ho, hk, hr, hp⟩ := h
  exact ⟨h', tk, m', Ld c, e, F, fun p hp => N p (hs p hp), ho, hR c m' hk hr hp⟩
theorem unrEndW_of_lp {σ : Type} {L : Addr} {s₁ s₂ : Shared} {I : Addr} {it : Obj} {Ld : σ → Led} {ps : σ → List (Str × Value)} {stored : List Str} {m₀ : Str → Option Value} {P : σ → Prop} {R : (Str → Option Value) → Led → Prop}
    (h : LpEnd h₀ L s₁ I it Ld ps stored m₀ P s₂) (hR : ∀ c m', (∀ p ∈ ps c, m' p.1 = some p.2) → (∀ z, (∀ p ∈ ps c, z ≠ p.1) → stored.contains z = false → m' z = m₀ z) → P c → R m' (Ld c)) : UnrEndW h₀ L s₁ [(I, it)] R s₂ := by
  obtain ⟨c, h', tk, m', news', e, F, N, hs, ho, hk, hr, hp⟩ := h
  refine ⟨h', tk, m', Ld c, e, F, fun p hp => N p (hs p (by simpa using hp)), fun p hp q hq => ?_, hR c m' hk hr hp⟩
  rw [List.mem_singleton.mp hq]; exact ho p hp
/-- a for over a list of the ledger -/
theorem lp_list {σ : Type} {l : Addr} {vs : List Value} {n : Nat} {m₀ : Str → Option Value} {news : Led} (Ld : σ → Led) (ps : σ → List (Str × Value)) (stored : List Str) (P : Nat → σ → Prop) (c₀ : σ)
    (hh : A.handled = none) (F : Fr h₀ env.locals s.heap m₀) (N : News h₀ env.locals s.heap news) (hm : ∀ c, (l, listOf vs.toArray n) ∈ Ld c) (hn : news = Ld c₀)
    (hk : ∀ p ∈ ps c₀, m₀ p.1 = some p.2) (hp : P 0 c₀)
    (turn : ∀ (c : σ) i v (u : Str → Option Value) (it : Obj) I h tk, vs[i]? = some v → P i c → (∀ p ∈ Ld c₀, p.1 < I) → it.cls = .type "list_iterator" →
      Fr h₀ env.locals h (fun y => if y = x then some v else lpM ps stored m₀ u c y) → News h₀ env.locals h ((I, it) :: Ld c) →
      wpAny (model prog w) A (execs body env) (LpPost h₀ env.locals { s with heap := h, toks := tk } I it Ld ps stored m₀ (P (i + 1)) Q) E { s with heap := h, toks := tk })
    (done : ∀ (c : σ) (u : Str → Option Value) h tk, P vs.length c → Fr h₀ env.locals h (lpM ps stored m₀ u c) → News h₀ env.locals h (Ld c) → Q .next { s with heap := h, toks := tk }) :
    wpAny (model prog w) A (pyIter (.ref l)) (fun it s₂ => LoopAtV prog w A h₀ env x body Q E it s₂) E s := by
  subst hn
  refine iter_listUnr hh F N (hm c₀) rfl rfl fun I hlt => ?_
  have go : ∀ r i c m, vs.drop i = r → i + r.length = vs.length → (∀ p ∈ ps c, m p.1 = some p.2) → (∀ z, (∀ p ∈ ps c, z ≠ p.1) → stored.contains z = false → m z = m₀ z) → P i c →
      ListRest prog w A E h₀ env x body Q s I (l, listOf vs.toArray n) r m (Ld c) := by
    intro r
    induction r with
    | nil =>
      intro i c m _ e h1 h2 hP
      have ei : i = vs.length := by simpa using e
      subst ei
      exact ListRest.zero fun h tk F' N' => done c m h tk hP (ksw_fr h1 h2 F') N'
    | cons v r ih =>
      intro i c m e e2 h1 h2 hP
      refine ListRest.succ fun it h tk hit F' N' => ?_
      have hv : vs[i]? = some v := by
        have := congrArg (fun z => z[0]?) e
        simpa using this
      have er : vs.drop (i + 1) = r := by
        have := congrArg List.tail e
        simpa using this
      have em : lpM ps stored m₀ m c = m := by
        funext y
        refine kstB_eq h1 fun hn => ?_
        show (if stored.contains y = true then m y else m₀ y) = m y
        cases h3 : stored.contains y with
        | true => simp
        | false => simp only [Bool.false_eq_true, if_false]; exact (h2 y hn h3).symm
      refine wpAny_mono (turn c i v m it I h tk hv hP hlt hit (by rw [em]; exact F') N') (fun f s₂ p => ?_) fun _ _ e => e
      have fin : LpEnd h₀ env.locals { s with heap := h, toks := tk } I it Ld ps stored m₀ (P (i + 1)) s₂ →
          UnrEnd h₀ env.locals { s with heap := h, toks := tk } I it (fun m' n' => (l, listOf vs.toArray n) ∈ n' ∧ ListRest prog w A E h₀ env x body Q s I (l, listOf vs.toArray n) r m' n') s₂ := fun q =>
        unrEnd_of_lp q fun c' m' k1 k2 k3 => ⟨hm c', ih (i + 1) c' m' er (by simp only [List.length_cons] at e2; omega) k1 k2 k3⟩
      cases f with
      | ret v => exact p
      | brk => exact p
      | next => exact fin p
      | cont => exact fin p
  exact go vs 0 c₀ m₀ (by simp) (by simp) hk (fun _ _ _ => rfl) hp
/-- a for over a list of the ledger, any target -/
theorem lp_turns {σ : Type} {l : Addr} {vs : List Value} {n : Nat} {m₀ : Str → Option Value} {news : Led} (Ld : σ → Led) (ps : σ → List (Str × Value)) (stored : List Str) (P : Nat → σ → Prop) (c₀ : σ)
    (hh : A.handled = none) (F : Fr h₀ env.locals s.heap m₀) (N : News h₀ env.locals s.heap news) (hm : ∀ c, (l, listOf vs.toArray n) ∈ Ld c) (hn : news = Ld c₀)
    (hk : ∀ p ∈ ps c₀, m₀ p.1 = some p.2) (hp : P 0 c₀)
    (turn : ∀ (c : σ) i v (u : Str → Option Value) (it : Obj) I h tk, vs[i]? = some v → P i c → (∀ p ∈ Ld c₀, p.1 < I) → it.cls = .type "list_iterator" →
      Fr h₀ env.locals h (lpM ps stored m₀ u c) → News h₀ env.locals h ((I, it) :: Ld c) →
      wpAny (model prog w) A (assign target env v) (fun _ s₃ => wpAny (model prog w) A (execs body env) (LpPost h₀ env.locals { s with heap := h, toks := tk } I it Ld ps stored m₀ (P (i + 1)) Q) E s₃) E { s with heap := h, toks := tk })
    (done : ∀ (c : σ) (u : Str → Option Value) h tk, P vs.length c → Fr h₀ env.locals h (lpM ps stored m₀ u c) → News h₀ env.locals h (Ld c) → Q .next { s with heap := h, toks := tk }) :
    wpAny (model prog w) A (pyIter (.ref l)) (fun it s₂ => TurnsAt prog w A h₀ env target body Q E it s₂) E s := by
  subst hn
  refine iter_listTurns hh F N (hm c₀) rfl rfl fun I hlt => ?_
  have go : ∀ r i c m, vs.drop i = r → i + r.length = vs.length → (∀ p ∈ ps c, m p.1 = some p.2) → (∀ z, (∀ p ∈ ps c, z ≠ p.1) → stored.contains z = false → m z = m₀ z) → P i c →
      ItemsRest prog w A E h₀ env target body Q s [(I, "list_iterator")] [(l, listOf vs.toArray n)] (r.map .val) m (Ld c) := by
    intro r
    induction r with
    | nil =>
      intro i c m _ e h1 h2 hP
      have ei : i = vs.length := by simpa using e
      subst ei
      exact ItemsRest.zero fun h tk F' N' => done c m h tk hP (ksw_fr h1 h2 F') N'
    | cons v r ih =>
      intro i c m e e2 h1 h2 hP
      have hv : vs[i]? = some v := by
        have := congrArg (fun z => z[0]?) e
        simpa using this
      have er : vs.drop (i + 1) = r := by
        have := congrArg List.tail e
        simpa using this
      refine ItemsRest.val fun h tk F' => AllObj.cons fun it hit => AllObj.nil fun N' => ?_
      refine wpAny_mono (turn c i v m it I h tk hv hP hlt hit (ksw_fr h1 h2 F') N') (fun _ s₃ p => wpAny_mono p (fun f s₂ p => ?_) fun _ _ e => e) fun _ _ e => e
      have fin : LpEnd h₀ env.locals { s with heap := h, toks := tk } I it Ld ps stored m₀ (P (i + 1)) s₂ →
          UnrEndW h₀ env.locals { s with heap := h, toks := tk } [(I, it)] (fun m' n' => SubL [(l, listOf vs.toArray n)] n' ∧ ItemsRest prog w A E h₀ env target body Q s [(I, "list_iterator")] [(l, listOf vs.toArray n)] (r.map .val) m' n') s₂ := fun q =>
        unrEndW_of_lp q fun c' m' k1 k2 k3 => ⟨⟨hm c', trivial⟩, ih (i + 1) c' m' er (by simp only [List.length_cons] at e2; omega) k1 k2 k3⟩
      cases f with
      | ret v => exact p
      | brk => exact p
      | next => exact fin p
      | cont => exact fin p
  exact go vs 0 c₀ m₀ (by simp) (by simp) hk (fun _ _ _ => rfl) hp
/-- a for over a range by ones -/
theorem lp_range {σ : Type} {r : Addr} {a₀ b₀ : Int} {t₀ u₀ v₀ : Tok} {n : Nat} {m₀ : Str → Option Value} (Ld : σ → Led) (ps : σ → List (Str × Value)) (stored : List Str) (P : Nat → σ → Prop) (c₀ : σ)
    (hh : A.handled = none) (hr : IsRange s.heap r a₀ b₀ 1 t₀ u₀ v₀) (hsmall : Builtin.Range.small a₀ b₀ 1 = true) (hsz : Builtin.Range.rangeSize a₀ b₀ 1 = (n : Int)) (F : Fr h₀ env.locals s.heap m₀) (N : News h₀ env.locals s.heap (Ld c₀))
    (hk : ∀ p ∈ ps c₀, m₀ p.1 = some p.2) (hp : P 0 c₀)
    (turn : ∀ (c : σ) i t (u : Str → Option Value) I h tk, i < n → P i c → (∀ p ∈ Ld c₀, p.1 < I) →
      Fr h₀ env.locals h (fun y => if y = x then some (.int (a₀ + (i : Int)) t) else lpM ps stored m₀ u c y) → News h₀ env.locals h ((I, itR (a₀ + ((i + 1 : Nat) : Int)) ((n : Int) - ((i + 1 : Nat) : Int))) :: Ld c) →
      wpAny (model prog w) A (execs body env) (LpPost h₀ env.locals { s with heap := h, toks := tk } I (itR (a₀ + ((i + 1 : Nat) : Int)) ((n : Int) - ((i + 1 : Nat) : Int))) Ld ps stored m₀ (P (i + 1)) Q) E { s with heap := h, toks := tk })
    (done : ∀ (c : σ) (u : Str → Option Value) h tk, P n c → Fr h₀ env.locals h (lpM ps stored m₀ u c) → News h₀ env.locals h (Ld c) → Q .next { s with heap := h, toks := tk }) :
    wpAny (model prog w) A (pyIter (.ref r)) (fun it s₂ => LoopAtV prog w A h₀ env x body Q E it s₂) E s := by
  refine iter_rangeUnr (news := Ld c₀) hh hr hsmall hsz F N fun I hlt => ?_
  have go : ∀ k i c m, i + k = n → (∀ p ∈ ps c, m p.1 = some p.2) → (∀ z, (∀ p ∈ ps c, z ≠ p.1) → stored.contains z = false → m z = m₀ z) → P i c →
      RangeRest prog w A E h₀ env x body Q s I a₀ n k i m (Ld c) := by
    intro k
    induction k with
    | zero =>
      intro i c m e h1 h2 hP
      have ei : i = n := by simpa using e
      subst ei
      exact RangeRest.zero fun h tk F' N' => done c m h tk hP (ksw_fr h1 h2 F') N'
    | succ k ih =>
      intro i c m e h1 h2 hP
      refine RangeRest.succ fun t h tk F' N' => ?_
      have em : lpM ps stored m₀ m c = m := by
        funext y
        refine kstB_eq h1 fun hn => ?_
        show (if stored.contains y = true then m y else m₀ y) = m y
        cases h3 : stored.contains y with
        | true => simp
        | false => simp only [Bool.false_eq_true, if_false]; exact (h2 y hn h3).symm
      refine wpAny_mono (turn c i t m I h tk (by omega) hP hlt (by rw [em]; exact F') N') (fun f s₂ p => ?_) fun _ _ e => e
      have fin : LpEnd h₀ env.locals { s with heap := h, toks := tk } I (itR (a₀ + ((i + 1 : Nat) : Int)) ((n : Int) - ((i + 1 : Nat) : Int))) Ld ps stored m₀ (P (i + 1)) s₂ →
          UnrEnd h₀ env.locals { s with heap := h, toks := tk } I (itR (a₀ + ((i + 1 : Nat) : Int)) ((n : Int) - ((i + 1 : Nat) : Int))) (RangeRest prog w A E h₀ env x body Q s I a₀ n k (i + 1)) s₂ := fun q =>
        unrEnd_of_lp q fun c' m' k1 k2 k3 => ih (i + 1) c' m' (by omega) k1 k2 k3
      cases f with
      | ret v => exact p
      | brk => exact p
      | next => exact fin p
      | cont => exact fin p
  exact go n 0 c₀ m₀ (by simp) hk (fun _ _ _ => rfl) hp
end
end Mine
end PartLp
section PartPcs
set_option maxRecDepth 100000
set_option Elab.async false
namespace Mine
open PySem PySem.Spec PySem.W PyProof.Rows PySem.Calls PySem.Builtin PySem.Builtin.Str
theorem free_cut {c : Nat} : ∀ {a b t u : List Nat}, c ∉ a → c ∉ b → a ++ c :: t = b ++ c :: u → a = b ∧ t = u
  | [], [], t, u, _, _, e => ⟨rfl, by simpa using e⟩
  | [], y :: b, t, u, _, hb, e => by
    simp only [List.nil_append, List.cons_append, List.cons.injEq] at e
    exact absurd (e.1 ▸ List.mem_cons_self) hb
  | x :: a, [], t, u, ha, _, e => by
    simp only [List.nil_append, List.cons_append, List.cons.injEq] at e
    exact absurd (e.1 ▸ List.mem_cons_self) ha
  | x :: a, y :: b, t, u, ha, hb, e => by
    simp only [List.cons_append, List.cons.injEq] at e
    obtain ⟨rfl, h⟩ := free_cut (fun h => ha (List.mem_cons_of_mem _ h)) (fun h => hb (List.mem_cons_of_mem _ h)) e.2
    exact ⟨by rw [e.1], h⟩
theorem str_eq {x y : Str} (h : x.cps.toList = y.cps.toList) : x = y := by
  cases x; cases y
  congr 1
  exact Array.toList_inj.mp h
theorem join2 (c : Nat) (x y : Str) (r : List Str) : (Str.join ⟨#[c]⟩ (x :: y :: r)).cps.toList = x.cps.toList ++ c :: (Str.join ⟨#[c]⟩ (y :: r)).cps.toList := by
  rw [join_cons_cons]
  show ((x.cps ++ #[c]) ++ _).toList = _
  simp
theorem join_inj {c : Nat} : ∀ {ps qs : List Str}, ps ≠ [] → qs ≠ [] → (∀ p ∈ ps, c ∉ p.cps.toList) → (∀ p ∈ qs, c ∉ p.cps.toList) → Str.join ⟨#[c]⟩ ps = Str.join ⟨#[c]⟩ qs → ps = qs
  | [], _, h, _, _, _, _ => absurd rfl h
  | _ :: _, [], _, h, _, _, _ => absurd rfl h
  | [x], [y], _, _, _, _, e => by
    have : x = y := e
    rw [this]
  | [x], y :: z :: r, _, _, hx, _, e => by
    have h2 := congrArg (fun s : Str => s.cps.toList) e
    rw [join2] at h2
    have h3 : (Str.join ⟨#[c]⟩ [x]).cps.toList = x.cps.toList := rfl
    rw [h3] at h2
    exact absurd (by rw [h2]; simp) (hx x List.mem_cons_self)
  | x :: z :: r, [y], _, _, _, hy, e => by
    have h2 := congrArg (fun s : Str => s.cps.toList) e
    rw [join2] at h2
    have h3 : (Str.join ⟨#[c]⟩ [y]).cps.toList = y.cps.toList := rfl
    rw [h3] at h2
    exact absurd (by rw [← h2]; simp) (hy y List.mem_cons_self)
  | x :: z :: r, y :: z' :: r', _, _, hx, hy, e => by
    have h2 := congrArg (fun s : Str => s.cps.toList) e
    rw [join2, join2] at h2
    obtain ⟨h3, h4⟩ := free_cut (hx x List.mem_cons_self) (hy y List.mem_cons_self) h2
    have h5 := join_inj (ps := z :: r) (qs := z' :: r') (by simp) (by simp) (fun p hp => hx p (List.mem_cons_of_mem _ hp)) (fun p hp => hy p (List.mem_cons_of_mem _ hp)) (str_eq h4)
    rw [str_eq h3, h5]
theorem split_unique {x : Str} {c : Nat} {ps : List Str} (hx : x = Str.join ⟨#[c]⟩ ps) (hn : ps ≠ []) (hf : ∀ p ∈ ps, c ∉ p.cps.toList) : Txt.split x ⟨#[c]⟩ = ps := by
  refine join_inj (c := c) (fun e => ?_) hn (StrLaws.split_free x c) hf ((StrLaws.join_split x ⟨#[c]⟩).trans hx)
  have := split_pos x ⟨#[c]⟩
  rw [e] at this
  exact absurd this (by decide)
/-- what stands ahead of a bracket that closes -/
noncomputable def preC (c : Nat) : Str := Str.ofString "(?>.*?" ++ escC c
theorem pieceC_pre (c : Nat) : pieceC c = preC c ++ Str.ofString ")" := rfl
theorem join_pieces : ∀ sg : List Nat, Str.join (Str.ofString "") (sg.map pieceC ++ [Str.ofString ".*"]) = Str.join ⟨#[41]⟩ (sg.map preC ++ [Str.ofString ".*"])
  | [] => rfl
  | [c] => by
    refine str_eq ?_
    show (Str.join (Str.ofString "") [pieceC c, Str.ofString ".*"]).cps.toList = (Str.join ⟨#[41]⟩ [preC c, Str.ofString ".*"]).cps.toList
    rw [join_cons_cons, join_cons_cons]
    have e : (Str.ofString "").cps = #[] := rfl
    show ((((preC c).cps ++ #[41]) ++ #[]) ++ _).toList = (((preC c).cps ++ #[41]) ++ _).toList
    simp
    rfl
  | c :: d :: r => by
    have ih := join_pieces (d :: r)
    refine str_eq ?_
    have ih' := congrArg (fun s : Str => s.cps.toList) ih
    simp only [List.map_cons, List.cons_append] at ih' ⊢
    rw [join_cons_cons, join_cons_cons]
    show ((((preC c).cps ++ #[41]) ++ #[]) ++ (Str.join (Str.ofString "") (pieceC d :: (r.map pieceC ++ [Str.ofString ".*"]))).cps).toList = (((preC c).cps ++ #[41]) ++ (Str.join ⟨#[41]⟩ (preC d :: (r.map preC ++ [Str.ofString ".*"]))).cps).toList
    simp [ih']
theorem body_split {sg : List Nat} (hs : ∀ c ∈ sg, okc c) : Txt.split (bodyOf sg) ⟨#[41]⟩ = sg.map preC ++ [Str.ofString ".*"] := by
  refine split_unique ?_ (by simp) ?_
  · show Txt.join _ _ = _
    unfold Txt.join
    rw [StrLaws.glued_eq_join]
    exact join_pieces sg
  · intro p hp
    rcases List.mem_append.mp hp with hp | hp
    · obtain ⟨c, hc, rfl⟩ := List.mem_map.mp hp
      have hok := hs c hc
      unfold okc at hok
      simp only [Bool.or_eq_true, Bool.and_eq_true, decide_eq_true_eq, beq_iff_eq] at hok
      have e : (preC c).cps.toList = [40, 63, 62, 46, 42, 63] ++ (escC c).cps.toList := by
        unfold preC
        show ((Str.ofString "(?>.*?").cps ++ (escC c).cps).toList = _
        rw [Array.toList_append]
        rfl
      rw [e]
      unfold escC
      split <;> simp <;> omega
    · rcases List.mem_singleton.mp hp with rfl
      decide
end Mine
end PartPcs
section PartPcF
set_option maxRecDepth 100000
set_option Elab.async false
namespace Mine
open PySem PySem.Spec PySem.W PyProof.Rows PySem.Calls PySem.Builtin PySem.Builtin.Str
/-- a slice of a text in three parts -/
theorem slice_mid {x : Str} {p q r : List Nat} {lo hi : Option Int} (hx : x.cps.toList = p ++ q ++ r) (ea : cut x.length lo 0 = p.length) (eb : cut x.length hi x.length = ((p.length + q.length : Nat) : Int)) :
    Txt.slice x lo hi = ⟨q.toArray⟩ := by
  have hl : x.length = p.length + q.length + r.length := by
    show x.cps.size = _
    rw [← Array.length_toList, hx, List.length_append, List.length_append]
  rw [slice_as ea eb (by omega) (by omega) (by omega)]
  rw [hx, Int.toNat_natCast, List.append_assoc, List.drop_left]
  congr 1
  have e : (((p.length + q.length : Nat) : Int) - (p.length : Int)).toNat = q.length := by omega
  rw [e, List.take_left]
theorem trText_list (sg : List Nat) : (trText sg).cps.toList = [40, 63, 115, 58] ++ (bodyOf sg).cps.toList ++ [41, 92, 90] := by
  unfold trText
  show (((Str.ofString "(?s:").cps ++ (bodyOf sg).cps) ++ (Str.ofString ")\\Z").cps).toList = _
  rw [Array.toList_append, Array.toList_append]
  rfl
theorem trText_size (sg : List Nat) : (trText sg).length = 7 + (bodyOf sg).length := by
  show (trText sg).cps.size = _
  rw [← Array.length_toList, trText_list, List.length_append, List.length_append, Array.length_toList]
  show 4 + (bodyOf sg).cps.size + 3 = 7 + (bodyOf sg).cps.size
  omega
theorem toArr (x : Str) : (⟨x.cps.toList.toArray⟩ : Str) = x := by cases x; simp
theorem tr_mid (sg : List Nat) : Txt.slice (trText sg) (some 4) (some (-3)) = bodyOf sg := by
  have h := trText_size sg
  rw [slice_mid (trText_list sg), toArr]
  · unfold cut; dsimp only; rw [if_neg (by decide), h]; show max 0 (min 4 _) = (4 : Int); omega
  · unfold cut; dsimp only; rw [if_pos (by decide), h, Array.length_toList]; show max 0 (min (-3 + _) _) = ((4 + (bodyOf sg).length : Nat) : Int); omega
theorem tr_head (sg : List Nat) : Txt.slice (trText sg) none (some 4) = Str.ofString "(?s:" := by
  have h := trText_size sg
  rw [slice_mid (p := []) (q := [40, 63, 115, 58]) (r := (bodyOf sg).cps.toList ++ [41, 92, 90])]
  · rfl
  · rw [trText_list]; simp
  · rfl
  · unfold cut; dsimp only; rw [if_neg (by decide), h]; show max 0 (min 4 _) = (4 : Int); omega
theorem tr_tail (sg : List Nat) : Txt.slice (trText sg) (some (-3)) none = Str.ofString ")\\Z" :=
  slice_last (n := 3) (p := [40, 63, 115, 58] ++ (bodyOf sg).cps.toList) (q := [41, 92, 90]) (trText_list sg) rfl (by decide)
theorem preC_list (c : Nat) : (preC c).cps.toList = [40, 63, 62, 46, 42, 63] ++ (escC c).cps.toList := by
  unfold preC
  show ((Str.ofString "(?>.*?").cps ++ (escC c).cps).toList = _
  rw [Array.toList_append]
  rfl
theorem preC_size (c : Nat) : (preC c).length = 6 + (escC c).length := by
  show (preC c).cps.size = _
  rw [← Array.length_toList, preC_list, List.length_append, Array.length_toList]
  rfl
theorem pre_head (c : Nat) : Txt.slice (preC c) none (some 6) = Str.ofString "(?>.*?" := by
  have h := preC_size c
  rw [slice_mid (p := []) (q := [40, 63, 62, 46, 42, 63]) (r := (escC c).cps.toList)]
  · rfl
  · rw [preC_list]; simp
  · rfl
  · unfold cut; dsimp only; rw [if_neg (by decide), h]; show max 0 (min 6 _) = (6 : Int); omega
theorem pre_tail (c : Nat) : Txt.slice (preC c) (some 6) none = escC c := by
  have h := preC_size c
  rw [slice_mid (p := [40, 63, 62, 46, 42, 63]) (q := (escC c).cps.toList) (r := []), toArr]
  · rw [preC_list]; simp
  · unfold cut; dsimp only; rw [if_neg (by decide), h]; show max 0 (min 6 _) = (6 : Int); omega
  · unfold cut; dsimp only; rw [h, Array.length_toList]; rfl
theorem esc_ne_dot (c : Nat) : ((escC c).cps.toList == (Str.ofString ".").cps.toList) = false := by
  unfold escC
  split
  · rfl
  · rename_i h
    show ([c] == [46]) = false
    have : c ≠ 46 := fun e => h (by rw [e]; decide)
    simp [this]
theorem esc_plain {c : Nat} (hc : c ≠ 92) : Txt.replace (escC c) ⟨#[92]⟩ (Str.ofString "") = ⟨#[c]⟩ := by
  rw [StrLaws.replace_one]
  unfold escC
  split
  · rw [split_unique (x := ⟨#[92, c]⟩) (c := 92) (ps := [⟨#[]⟩, ⟨#[c]⟩]) rfl (by simp)]
    · show Str.join (Str.ofString "") [_, _] = _
      refine str_eq ?_
      rw [join_cons_cons]
      show ((#[] ++ (Str.ofString "").cps) ++ #[c]).toList = [c]
      rfl
    · intro p hp
      rcases List.mem_cons.mp hp with rfl | hp
      · simp
      · rcases List.mem_singleton.mp hp with rfl
        simp; omega
  · rw [split_unique (x := ⟨#[c]⟩) (c := 92) (ps := [⟨#[c]⟩]) rfl (by simp)]
    · rfl
    · intro p hp
      rcases List.mem_singleton.mp hp with rfl
      simp; omega
end Mine
end PartPcF
section PartPcW
open PySem PySem.Spec PySem.W PyProof.Rows PySem.Calls
set_option Elab.async false
set_option maxRecDepth 100000
namespace Mine
theorem fill_PcW (w : World) : (fun (_ : Program) (_ : Frag) => True) PySem.Challenge.rw_kq0062_01.row.prog (hd.heap_1 w.params) := by
  k_fill
  trivial
theorem strs_values : ∀ {l : List (Str × Tok)} {ys : List Str}, l.map (·.1) = ys → StrsAre (strValues l) ys
  | [], _, e => by subst e; exact .nil
  | (x, t) :: r, _, e => by subst e; exact .cons x t (strs_values rfl)
theorem strs_len {vs : List Value} {ys : List Str} (h : StrsAre vs ys) : vs.length = ys.length := h.length
theorem strs_append : ∀ {vs : List Value} {ps : List Str} {y : Str}, StrsAre vs (ps ++ [y]) → ∃ us t, vs = us ++ [.str y t] ∧ StrsAre us ps
  | _, [], y, .cons _ t .nil => ⟨[], t, rfl, .nil⟩
  | _, p :: ps, y, .cons _ t h => by
    obtain ⟨us, t', e, hu⟩ := strs_append h
    exact ⟨.str p t :: us, t', by rw [e]; rfl, .cons p t hu⟩
theorem comp_same {h₀ : Heap} {L I C D : Addr} {m : Str → Option Value} {s₁ : Shared} {oI oC oD : Obj} {S : Led → Prop} {rest : Value → Led → Prop} {y : Value} {h' : Heap} {tk : Nat} {news : Led}
    (F : Fr h₀ L h' m) (N : News h₀ L h' ((I, oI) :: (C, oC) :: (D, oD) :: news)) (off : LCg.Off3 I C D news) (hS : S news) (r : rest y news) : LCg.CompEnd h₀ L m s₁ I oI C oC D oD S rest y { s₁ with heap := h', toks := tk } := LCg.CompEnd.intro F N news (fun p hp => hp) off hS r
theorem src_here {h₀ : Heap} {D : Addr} {vs : List Value} {n : Nat} {news : Led} (h : (D, listOf vs.toArray n) ∈ news) : LCg.SrcAt h₀ D vs.toArray news := Or.inr ⟨_, h, rfl, _, rfl⟩
theorem strs_get : ∀ {vs : List Value} {ys : List Str} {i : Nat} {v : Value}, StrsAre vs ys → vs[i]? = some v → ∃ y t, v = .str y t ∧ ys[i]? = some y
  | _, _, _, _, .nil, e => by simp at e
  | _, _, 0, _, .cons x t _, e => by
    simp only [List.getElem?_cons_zero, Option.some.injEq] at e
    exact ⟨x, t, e.symm, rfl⟩
  | _, _, i + 1, _, .cons x t h, e => by
    simp only [List.getElem?_cons_succ] at e ⊢
    exact strs_get h e
theorem strs_map_get {vs : List Value} {f : Nat → Str} {sg : List Nat} {i : Nat} {v : Value} (h : StrsAre vs (sg.map f)) (e : vs.toArray[i]? = some v) : ∃ c t, v = .str (f c) t ∧ sg[i]? = some c := by
  obtain ⟨y, t, e1, e2⟩ := strs_get h (by simpa using e)
  rw [List.getElem?_map] at e2
  obtain ⟨c, hc, rfl⟩ := Option.map_eq_some_iff.mp e2
  exact ⟨c, t, e1, hc⟩
section
variable {prog : Program} {w : World} {A : Around} {E : Value → Shared → Prop} {s : Shared} {h₀ : Heap} {L : Addr} {m : Str → Option Value} {news news' : Led} {D : Addr} {x y : Str} {t u : Tok} {n : Nat} {Q : Value → Shared → Prop}
theorem lst_split {ps : List Str} {z : Str} (hF : Fr h₀ L s.heap m) (hN : News h₀ L s.heap news) (hp : Txt.split x y = ps ++ [z]) (hy : (y.length == 0) = false) (hx : x.length ≤ 100000)
    (h : ∀ D us tz h' k, StrsAre us ps → Fr h₀ L h' m → News h₀ L h' ((D, listOf (us ++ [Value.str z tz]).toArray 0) :: news) → (∀ p ∈ news, p.1 < D) → Q (.ref D) { s with heap := h', toks := k }) :
    wpAny (model prog w) A (call (.builtin "str.split") [.str x t, .str y u]) Q E s :=
  splitN1 hF hN hy (fun l h' k e F' N' => by
    obtain ⟨us, tz, e2, hu⟩ := strs_append (strs_values (e.trans hp))
    rw [e2] at N'
    exact h _ us tz h' k hu F' N' fun p hp => Heap.lt_size (hN p hp).1) (by rw [sizeLine_eq]; omega)
theorem lst_pop {us : List Value} {v : Value} (F : Fr h₀ L s.heap m) (N : News h₀ L s.heap news) (U : Upd D (listOf (us ++ [v]).toArray n) (listOf us.toArray (n + 1)) news news') (hz : (us ++ [v]).length ≤ 100000)
    (h : ∀ h', Fr h₀ L h' m → News h₀ L h' news' → Q v { s with heap := h' }) : wpAny (model prog w) A (call (.builtin "list.pop") [.ref D]) Q E s :=
  kl_pop F N (p := us) (y := v) (by simpa using kpa_last v us) U (by rw [sizeLine_eq]; simp only [List.toList_toArray]; omega) h
theorem sl_ss {value slice : Expr} {i j : Int} {ui uj : Tok} (hy : Txt.slice x (some i) (some j) = y) (hx : x.length ≤ 100000) (hF : Fr h₀ L s.heap m) (hN : News h₀ L s.heap news) (h : ∀ h' t' k, Fr h₀ L h' m → News h₀ L h' news → Q (.str y t') { s with heap := h', toks := k })
    (hs : subscripted slice false (.str x t) (.ref s.heap.objs.size) = operate [.ref s.heap.objs.size, .str x t] (getItem (.str x t) (.ref s.heap.objs.size)) := by with_unfolding_all rfl)
    (ht : ∀ r, letTemporaryGo value (.str x t) r = pure () := by intro _; with_unfolding_all rfl) :
    wpAny (model prog w) A (subscriptTail value slice (.str x t) (.ref s.heap.objs.size)) Q E { s with heap := s.heap.push { cls := .type "slice", data := .fields #[.int i ui, .int j uj, .none] } } :=
  slice_strN_ss hF hN (fun h' t' k a b => by rw [hy]; exact h h' t' k a b) hs ht (Nat.le_trans hx (by rw [sizeLine_eq]; decide))
theorem sl_ns {value slice : Expr} {j : Int} {uj : Tok} (hy : Txt.slice x none (some j) = y) (hx : x.length ≤ 100000) (hF : Fr h₀ L s.heap m) (hN : News h₀ L s.heap news) (h : ∀ h' t' k, Fr h₀ L h' m → News h₀ L h' news → Q (.str y t') { s with heap := h', toks := k })
    (hs : subscripted slice false (.str x t) (.ref s.heap.objs.size) = operate [.ref s.heap.objs.size, .str x t] (getItem (.str x t) (.ref s.heap.objs.size)) := by with_unfolding_all rfl)
    (ht : ∀ r, letTemporaryGo value (.str x t) r = pure () := by intro _; with_unfolding_all rfl) :
    wpAny (model prog w) A (subscriptTail value slice (.str x t) (.ref s.heap.objs.size)) Q E { s with heap := s.heap.push { cls := .type "slice", data := .fields #[.none, .int j uj, .none] } } :=
  slice_strN_ns hF hN (fun h' t' k a b => by rw [hy]; exact h h' t' k a b) hs ht (Nat.le_trans hx (by rw [sizeLine_eq]; decide))
theorem sl_sn {value slice : Expr} {i : Int} {ui : Tok} (hn : 1 ≤ s.toks) (hy : Txt.slice x (some i) none = y) (hx : x.length ≤ 100000) (hF : Fr h₀ L s.heap m) (hN : News h₀ L s.heap news) (h : ∀ h' t' k, Fr h₀ L h' m → News h₀ L h' news → 1 ≤ k → Q (.str y t') { s with heap := h', toks := k })
    (hs : subscripted slice false (.str x t) (.ref s.heap.objs.size) = operate [.ref s.heap.objs.size, .str x t] (getItem (.str x t) (.ref s.heap.objs.size)) := by with_unfolding_all rfl)
    (ht : ∀ r, letTemporaryGo value (.str x t) r = pure () := by intro _; with_unfolding_all rfl) :
    wpAny (model prog w) A (subscriptTail value slice (.str x t) (.ref s.heap.objs.size)) Q E { s with heap := s.heap.push { cls := .type "slice", data := .fields #[.int i ui, .none, .none] } } :=
  wpAny_with_toks (n := 1) hn (slice_strN_sn hF hN (fun h' t' k a b => by rw [hy]; exact fun hk => h h' t' k a b hk) hs ht (Nat.le_trans hx (by rw [sizeLine_eq]; decide)))
theorem rep_str {x y z a : Str} {t u v : Tok} (hu : 1 ≤ u) (hv : u < v) (ha : Txt.replace x y z = a) (hyz : (y == z) = false) (hx : x.length ≤ 100000) (hz : z.length ≤ 14) (h : ∀ t' k, Q (.str a t') { s with toks := k }) :
    wpAny (model prog w) A (call (.builtin "str.replace") [.str x t, .str y u, .str z v]) Q E s :=
  SC.replaceW (Nat.ne_of_gt hu) (Nat.ne_of_gt (Nat.lt_of_le_of_lt (Nat.zero_le _) hv)) (Nat.ne_of_lt hv) hyz (by omega) hz (by rw [ha]; exact h)
end
theorem body_len (sg : List Nat) : (bodyOf sg).length ≤ 9 * sg.length + 2 := by
  refine Nat.le_trans (joined_len _) ?_
  have h1 := pieces_weight sg
  have h3 : (Str.ofString ".*").length = 2 := by decide
  rw [List.map_append, List.sum_append]
  simp only [List.map_cons, List.map_nil, List.sum_cons, List.sum_nil]
  omega
theorem pre_len (c : Nat) : (preC c).length ≤ 100000 := by
  rw [preC_size]
  have := escC_len c
  omega
local macro_rules | `(tactic| walk_at "subscriptTail") => `(tactic| (k_here; (with_reducible show wpAny _ _ (subscriptTail _ (Expr.Slice _ _ _ _) (Value.str _ _) (Value.ref _)) _ _ _); (with_reducible rename Fr _ _ _ _ => F'); (with_reducible rename News _ _ _ _ => N'); (first | (refine sl_ss (s := ⟨_, _, _, _, _⟩) (tr_mid _) (by assumption) F' N' ?_) | (refine sl_ns (s := ⟨_, _, _, _, _⟩) (tr_head _) (by assumption) F' N' ?_) | (refine sl_sn (s := ⟨_, _, _, _, _⟩) (by exact Nat.le_add_left _ _) (tr_tail _) (by assumption) F' N' ?_) | (refine sl_ns (s := ⟨_, _, _, _, _⟩) (pre_head _) (pre_len _) F' N' ?_) | (refine sl_sn (s := ⟨_, _, _, _, _⟩) (by exact Nat.le_add_left _ _) (pre_tail _) (pre_len _) F' N' ?_)); intro _ _ _ _ _; (try intro _)))
local macro_rules | `(tactic| walk_at "subscriptTail Name Slice str ref") => `(tactic| (k_here; (with_reducible show wpAny _ _ (subscriptTail _ (Expr.Slice _ _ _ _) (Value.str _ _) (Value.ref _)) _ _ _); (with_reducible rename Fr _ _ _ _ => F'); (with_reducible rename News _ _ _ _ => N'); (first | (refine sl_ss (s := ⟨_, _, _, _, _⟩) (tr_mid _) (by assumption) F' N' ?_) | (refine sl_ns (s := ⟨_, _, _, _, _⟩) (tr_head _) (by assumption) F' N' ?_) | (refine sl_sn (s := ⟨_, _, _, _, _⟩) (by exact Nat.le_add_left _ _) (tr_tail _) (by assumption) F' N' ?_) | (refine sl_ns (s := ⟨_, _, _, _, _⟩) (pre_head _) (pre_len _) F' N' ?_) | (refine sl_sn (s := ⟨_, _, _, _, _⟩) (by exact Nat.le_add_left _ _) (pre_tail _) (pre_len _) F' N' ?_)); intro _ _ _ _ _; (try intro _)))
local macro_rules | `(tactic| walk_at "call builtin:str.split") => `(tactic| (k_here; k_dflt (refine' lst_split ?F ?N ?p ?y ?x ?_; (case F => k_asm); (case N => k_asm); (case p => assumption); (case y => rfl); (case x => assumption); intro D' us' tz' h' k' hu' F' N' l1; (try k_lt l1); (try k_sweep))))
local macro_rules | `(tactic| walk_at "call builtin:list.pop") => `(tactic| (k_here; k_dflt (refine' lst_pop ?F ?N ?U ?z ?_; (case F => k_asm); (case N => k_asm); (case U => k_upd); (case z => ((with_reducible rename StrsAre _ _ => hu'); rw [List.length_append, strs_len hu', List.length_map]; simp only [List.length_cons, List.length_nil]; omega)); intro h' F' N'; (try k_sweep))))
local macro_rules | `(tactic| walk_at "eval ListComp") => `(tactic| (k_here; lcg_look; k_dflt (refine LCg.ListComp_U (F₀ := by k_asm) (by rfl) (by decide) (by rfl) (by decide) (by rfl) ?_); k_dflt lcg_toSrc))
local macro_rules | `(tactic| walk_at "eval ListComp") => `(tactic| (k_here; lct_look; k_dflt (refine LCt.ListComp_T (F₀ := by k_asm) (by with_unfolding_all rfl) (by decide) (by rfl) (by decide) (by rfl) ?_); k_dflt lct_toSrc))
local macro_rules | `(tactic| walk_at "CompSrcT") => `(tactic| (k_here; k_dflt (refine LCt.CompSrcT.ledger (by rfl) (by k_asm) (by k_asm) (by k_mem) ?z ?_; (case z => (rw [List.size_toArray, strs_len (by assumption), List.length_map, sizeLine_eq]; omega)); intro g'; refine Held.out ?_)))
local macro_rules | `(tactic| walk_at "CompSrc") => `(tactic| (k_here; k_dflt (refine LCg.CompSrc.ledger (by rfl) (by k_asm) (by k_asm) (by k_mem) ?z ?_; (case z => (rw [List.size_toArray, strs_len (by assumption), List.length_map, sizeLine_eq]; omega)); intro g'; refine Held.out ?_)))
local macro_rules | `(tactic| walk_at "CompRestT") => `(tactic| (refine Held.out ?_))
local macro_rules | `(tactic| walk_at "CompRest") => `(tactic| (refine Held.out ?_))
theorem okc_92 {c : Nat} (h : okc c) : c ≠ 92 := by
  intro e
  subst e
  exact absurd h (by decide)
theorem escC_short (c : Nat) : (escC c).length ≤ 100000 := Nat.le_trans (escC_len c) (by decide)
local macro_rules | `(tactic| walk_at "call builtin:str.replace") => `(tactic| (k_here; (refine rep_str (by assumption) (by exact Nat.lt_succ_self _) (esc_plain (by assumption)) (by decide) (escC_short _) (by decide) ?_); intro _ _))
local macro_rules | `(tactic| walk_at "compareOp Eq str str") => `(tactic| (k_here; refine cmp_str (esc_ne_dot _) ?_))
theorem pc_take {sg : List Nat} {i c : Nat} {ys : List Value} {x : Str} {t : Tok} (h : StrsAre ys ((sg.take i).map fun c => ⟨#[c]⟩)) (hc : sg[i]? = some c) (hx : x = ⟨#[c]⟩) : StrsAre (ys ++ [Value.str x t]) ((sg.take (i + 1)).map fun c => ⟨#[c]⟩) := by
  subst hx
  rw [take_snoc hc, List.map_append]
  exact strs_snoc _ _ h
set_option maxHeartbeats 0 in
theorem pcs_ct (w : World) (sg : List Nat) (t : Tok) (hs : ∀ c ∈ sg, okc c) (hl : sg.length ≤ 100) : Ct w 198 [.str (trText sg) t] [] 3 40 [] (fun tl v => ∃ R vs n, v = .ref R ∧ tl = [(R, listOf vs.toArray n)] ∧ StrsAre vs (sg.map fun c => ⟨#[c]⟩)) := by
  have hbl : (bodyOf sg).length ≤ 100000 := by have := body_len sg; omega
  have htl : (trText sg).length ≤ 100000 := by rw [trText_size]; have := body_len sg; omega
  have hsp := body_split hs
  refine' ct_intro (binds := [(Str.ofString "text", .str (trText sg) t)]) ?ho ?hcd ?hb ?hl ?hc ?hco ?hg ?hk ?hdd ?body
  case ho => k_is
  case hcd => k_is
  case hb => exact fun s X => BindsTo.of_eq rfl
  case hl => exact rfl
  case hc => decide
  case hco => exact rfl
  case hg => exact rfl
  case hk => exact rfl
  case hdd => decide
  intro p loose mean mg mb dp un gd cn cs a ccd cl outer base g L L' s B F X N T hlt hd hu
  k_fold
  k_steps
  rename StrsAre _ _ => hus
  rename Fr _ _ _ _ => lF
  rename News _ _ _ _ => lN
  unfold Held
  refine compT_inv (fun i ys => ys = []) rfl (fun ys e => ?fin) ?turn
  case turn =>
    clear lF lN
    rintro i ys v I oI C oC D m₂ h tk E' hi rfl hP hns hx lF lN off ne
    obtain ⟨c, t1, rfl, hc⟩ := strs_map_get hus hP
    k_steps
    rename Fr _ _ _ _ => F'
    rename News _ _ _ _ => N'
    exact comp_same F' N' off (src_here List.mem_cons_self) ⟨rfl, rfl⟩
  case fin =>
    clear lF lN
    subst e
    k_steps
    rename Fr _ _ _ _ => lF
    rename News _ _ _ _ => lN
    unfold Held
    refine comp_inv (fun i ys => StrsAre ys ((sg.take i).map fun c => ⟨#[c]⟩)) .nil (fun ys e => ?fin) ?turn
    case turn =>
      clear lF lN
      rintro i ys v I oI C oC D m₂ h tk E' hi hys hP hns hx lF lN off ne
      obtain ⟨c, t1, rfl, hc⟩ := strs_map_get hus hP
      have hc92 := okc_92 (hs c (List.mem_of_getElem? hc))
      k_steps
      rename Fr _ _ _ _ => F'
      rename News _ _ _ _ => N'
      refine comp_same F' N' off (src_here (List.mem_cons_of_mem _ List.mem_cons_self)) ?_
      exact ⟨rfl, pc_take hys hc rfl⟩
    case fin =>
      clear lF lN
      k_steps
      rename Fr _ _ _ _ => F'
      rename News _ _ _ _ => N'
      rw [List.size_toArray, strs_len hus, List.length_map, List.take_length] at e
      exact ⟨[_], _, _, _, rfl, F', fun p hp => N' p (by rw [List.mem_singleton.mp hp]; with_unfolding_all exact List.mem_cons_self), by simp, _, ys, ys.length, rfl, rfl, e⟩
end Mine
end PartPcW
section PartTk
open PySem PySem.Spec PySem.W PyProof.Rows PySem.Calls
set_option Elab.async false
set_option maxRecDepth 100000
namespace Mine
theorem fill_Tk (w : World) : (fun (_ : Program) (_ : Frag) => True) PySem.Challenge.rw_kq0062_01.row.prog (hd.heap_1 w.params) := by
  k_fill
  trivial
/-- the signs of sg are met in l one behind the other -/
noncomputable def subG : List Nat → List Nat → Bool
  | [], _ => true
  | _ :: _, [] => false
  | c :: r, d :: l => if d = c then subG r l else subG (c :: r) l
theorem subG_nil : ∀ l : List Nat, subG [] l = true
  | [] => rfl
  | _ :: _ => rfl
theorem subG_none {c : Nat} {r : List Nat} : ∀ {l : List Nat}, c ∉ l → subG (c :: r) l = false
  | [], _ => rfl
  | d :: l, h => by
    have h1 : d ≠ c := fun e => h (e ▸ List.mem_cons_self)
    show (if d = c then subG r l else subG (c :: r) l) = false
    rw [if_neg h1]
    exact subG_none fun h2 => h (List.mem_cons_of_mem _ h2)
theorem subG_first {c : Nat} {r post : List Nat} : ∀ {l : List Nat}, c ∉ l → subG (c :: r) (l ++ c :: post) = subG r post
  | [], _ => by
    show (if c = c then subG r post else subG (c :: r) post) = _
    rw [if_pos rfl]
  | d :: l, h => by
    have h1 : d ≠ c := fun e => h (e ▸ List.mem_cons_self)
    show (if d = c then subG r (l ++ c :: post) else subG (c :: r) (l ++ c :: post)) = _
    rw [if_neg h1]
    exact subG_first fun h2 => h (List.mem_cons_of_mem _ h2)
theorem from_nat (n p : Nat) : fromIndex n (p : Int) = p := by
  unfold fromIndex
  rw [if_neg (by omega)]
  omega
theorem tk_none {x : Str} {c p : Nat} {r : List Nat} (h : ∀ v, fromIndex x.length (p : Int) ≤ v → v < x.length → x.cps.getD v 0 ≠ c) : subG (c :: r) (x.cps.toList.drop p) = false := by
  rw [from_nat] at h
  refine subG_none fun hm => ?_
  obtain ⟨i, hi, e⟩ := List.getElem_of_mem hm
  have hl : x.cps.toList.length = x.length := by simp [Str.length]
  rw [List.length_drop, hl] at hi
  refine h (p + i) (by omega) (by omega) (StrLaws.getD_of_getElem? ?_)
  rw [List.getElem_drop] at e
  rw [← e]
  exact List.getElem?_eq_getElem _
theorem tk_first {x : Str} {c p k : Nat} {r : List Nat} (hp : p ≤ k) (hk : k < x.length) (hc : x.cps.getD k 0 = c) (h : ∀ v, fromIndex x.length (p : Int) ≤ v → v < k → x.cps.getD v 0 ≠ c) :
    subG (c :: r) (x.cps.toList.drop p) = subG r (x.cps.toList.drop (k + 1)) := by
  rw [from_nat] at h
  have hl : x.cps.toList.length = x.length := by simp [Str.length]
  have e1 : x.cps.toList.drop k = c :: x.cps.toList.drop (k + 1) := by
    rw [List.drop_eq_getElem_cons (by omega)]
    congr 1
    have := StrLaws.getElem?_of_getD hk hc
    rw [List.getElem?_eq_getElem (by omega)] at this
    exact Option.some.inj this
  have e2 : x.cps.toList.drop p = (x.cps.toList.drop p).take (k - p) ++ c :: x.cps.toList.drop (k + 1) := by
    rw [← e1]
    have := List.take_append_drop (k - p) (x.cps.toList.drop p)
    rw [List.drop_drop, show p + (k - p) = k by omega] at this
    exact this.symm
  rw [e2]
  refine subG_first fun hm => ?_
  obtain ⟨i, hi, e⟩ := List.getElem_of_mem hm
  rw [List.length_take, List.length_drop, hl] at hi
  refine h (p + i) (by omega) (by omega) (StrLaws.getD_of_getElem? ?_)
  rw [List.getElem_take, List.getElem_drop] at e
  rw [← e]
  exact List.getElem?_eq_getElem _
structure TkS where
  p : Nat
  tp : Tok
section
variable {prog : Program} {w : World} {A : Around} {E : Value → Shared → Prop} {s : Shared} {x y : Str} {t u v : Tok} {Q : Value → Shared → Prop}
theorem find_at {i k : Int} (hf : Txt.find3 x y i = k) (h : ∀ t' k', Q (.int k t') { s with toks := k' }) : wpAny (model prog w) A (call (.builtin "str.find") [.str x t, .str y u, .int i v]) Q E s :=
  SC.find3 (by rw [hf]; exact h _ _)
end
theorem tk_end {h₀ : Heap} {L R I : Addr} {o it : Obj} {s₁ : Shared} {m₀ m' : Str → Option Value} {P : TkS → Prop} {news' : Led} {h' : Heap} {tk k : Nat} {tp : Tok} (F : Fr h₀ L h' m') (N : News h₀ L h' news') (hI : (I, it) ∈ news') (hR : (R, o) ∈ news') (hne : R < I)
    (e1 : m' (Str.ofString "place") = some (.int ((k : Int) + 1) tp)) (hr : ∀ z, z ≠ Str.ofString "place" → z ≠ Str.ofString "piece" → m' z = m₀ z) (hp : P ⟨k + 1, tp⟩) :
    LpEnd h₀ L s₁ I it (fun _ : TkS => [(R, o)]) (fun c => [(Str.ofString "place", .int (c.p : Int) c.tp)]) [Str.ofString "piece"] m₀ P { s₁ with heap := h', toks := tk } :=
  lp_end ⟨k + 1, tp⟩ F N hI (List.forall_mem_cons.mpr ⟨hR, List.forall_mem_nil _⟩) (List.forall_mem_cons.mpr ⟨Nat.ne_of_lt hne, List.forall_mem_nil _⟩) (by intro p hp; rw [List.mem_singleton.mp hp]; exact e1)
    (fun z h1 h2 => hr z (h1 _ (.head _)) (by simpa using h2)) hp
theorem tk_fin {g : Heap} {L' R : Addr} {o : Obj} {s : Shared} {h' : Heap} {tk' : Nat} {m' : Str → Option Value} {news : Led} {b c : Bool} (F : Fr g L' h' m') (N : News g L' h' news) (hm : (R, o) ∈ news) (e : c = b) :
    Fin g L' [(R, o)] (fun tl v => tl = [] ∧ v = .bool c) s (.ret (.bool b)) { s with heap := h', toks := tk' } :=
  ⟨[], m', h', tk', rfl, F, fun p hp => N p (by rw [List.mem_singleton.mp hp]; exact hm), by simp, rfl, by rw [e]⟩
theorem drop_at {α : Type} {l : List α} {i : Nat} {c : α} (h : l[i]? = some c) : l.drop i = c :: l.drop (i + 1) := by
  obtain ⟨h1, h2⟩ := List.getElem?_eq_some_iff.mp h
  rw [List.drop_eq_getElem_cons h1, h2]
local macro_rules | `(tactic| walk_at "call builtin:str.find") => `(tactic| (k_here; (refine find_at (by assumption) ?_); intro _ _))
local macro_rules | `(tactic| walk_at "exec For Name Name cons nil") => `(tactic| (k_here; (rename Fr _ _ _ _ => lF'); (with_unfolding_all refine' For_invVF lF' ?k1 ?k2 ?_; (case k1 => exact rfl); (case k2 => exact rfl); k_whole)))
local macro_rules | `(tactic| walk_at "LpPost") => `(tactic| (dsimp only [LpPost]))
local macro_rules | `(tactic| walk_at "pyIter ref") => `(tactic| (refine Held.out ?_))
set_option maxHeartbeats 0 in
theorem tk_ct (w : World) (sg : List Nat) (R : Addr) (vs : List Value) (n : Nat) (x : Str) (t : Tok) (hv : StrsAre vs (sg.map fun c => ⟨#[c]⟩)) (hl : sg.length ≤ 100) (hx : x.length ≤ 100000) :
    Ct w 205 [.ref R, .str x t] [] 3 40 [(R, listOf vs.toArray n)] (fun tl v => tl = [] ∧ v = .bool (subG sg x.cps.toList)) := by
  refine' ct_intro (binds := [(Str.ofString "pieces", .ref R), (Str.ofString "word", .str x t)]) ?ho ?hcd ?hb ?hl ?hc ?hco ?hg ?hk ?hdd ?body
  case ho => k_is
  case hcd => k_is
  case hb => exact fun s X => BindsTo.of_eq rfl
  case hl => exact rfl
  case hc => decide
  case hco => exact rfl
  case hg => exact rfl
  case hk => exact rfl
  case hdd => decide
  intro p loose mean mg mb dp un gd cn cs a ccd cl outer base g L L' s B F X N T hlt hd hu
  k_fold
  k_steps
  rename Fr _ _ _ _ => lF
  rename News _ _ _ _ => lN
  unfold Held
  with_unfolding_all refine' lp_list (vs := vs) (n := n) (fun _ : TkS => [(R, listOf vs.toArray n)]) (fun c => [(Str.ofString "place", .int (c.p : Int) c.tp)]) [Str.ofString "piece"] (fun i c => c.p ≤ x.length ∧ subG sg x.cps.toList = subG (sg.drop i) (x.cps.toList.drop c.p)) ⟨0, _⟩ rfl lF lN ?hm ?hn ?kk ?kp ?turn ?done
  case hm => exact fun _ => List.mem_cons_self
  case hn => exact rfl
  case kk => exact List.forall_mem_cons.mpr ⟨by with_unfolding_all rfl, List.forall_mem_nil _⟩
  case kp => exact ⟨Nat.zero_le _, rfl⟩
  case turn =>
    clear lF lN
    rintro ⟨p, tp⟩ i v u it I h tk hvi ⟨hp, hs⟩ hI hit lF lN
    obtain ⟨c, t1, rfl, hc⟩ := strs_map_get hv (by simpa using hvi)
    dsimp only at hp hs lF lN
    k_fold
    rcases StrLaws.find3_spec x c (p : Int) with ⟨hf, hn⟩ | ⟨k, hf, hk1, hk2, hk3, hk4⟩
    · k_steps
      rename Fr _ _ _ _ => F'
      rename News _ _ _ _ => N'
      with_unfolding_all refine tk_fin F' N' (List.mem_cons_of_mem _ List.mem_cons_self) ?_
      rw [hs, drop_at hc, tk_none hn]
    · k_steps
      rename Fr _ _ _ _ => F'
      rename News _ _ _ _ => N'
      rw [from_nat] at hk1
      with_unfolding_all refine tk_end (k := k) F' N' List.mem_cons_self (List.mem_cons_of_mem _ List.mem_cons_self) (hI _ List.mem_cons_self) rfl ?_ ⟨hk2, ?_⟩
      · intro z e1 e2
        simp only [kstB, e1, e2, if_false, List.contains_cons, List.contains_nil, beq_eq_false_iff_ne.mpr e2, Bool.or_false, Bool.false_eq_true]
      · exact hs.trans ((congrArg (fun z => subG z _) (drop_at hc)).trans (tk_first hk1 hk2 hk3 hk4))
  case done =>
    clear lF lN
    rintro ⟨p, tp⟩ u h tk ⟨hp, hs⟩ lF lN
    dsimp only at hp hs lF lN
    have hlen : vs.length = sg.length := by rw [strs_len hv, List.length_map]
    k_steps
    with_unfolding_all refine tk_fin lF lN List.mem_cons_self ?_
    rw [hs, hlen, List.drop_length, subG_nil]
end Mine
end PartTk
section PartNd
local macro_rules | `(tactic| walk_at "pad Nd 0") => `(tactic| skip)
open PySem PySem.Spec PySem.W PyProof.Rows PySem.Calls
set_option Elab.async false
set_option maxRecDepth 100000
namespace Mine
theorem fill_Nd (w : World) : (fun (_ : Program) (_ : Frag) => True) PySem.Challenge.rw_kq0062_01.row.prog (hd.heap_1 w.params) := by
  k_fill
  trivial
noncomputable def riseF (ns : List Int) : Nat := (ns.filter fun n => decide (n ≠ 0)).length
noncomputable def needF (ns : List Int) (d : Int) : Int := if d - ns.sum ≤ 0 then 0 else if riseF ns = 0 then 7 else -Int.fdiv (-(d - ns.sum)) (riseF ns)
theorem int_get : ∀ {vs : List Value} {ns : List Int} {i : Nat} {v : Value}, IntsAre vs ns → vs[i]? = some v → ∃ n t, v = .int n t ∧ ns[i]? = some n
  | _, _, _, _, .nil, e => by simp at e
  | _, _, 0, _, .cons x t _, e => by
    simp only [List.getElem?_cons_zero, Option.some.injEq] at e
    exact ⟨x, t, e.symm, rfl⟩
  | _, _, i + 1, _, .cons x t h, e => by
    simp only [List.getElem?_cons_succ] at e ⊢
    exact int_get h e
theorem take_snocG {α : Type} {l : List α} {i : Nat} {d : α} (h : l[i]? = some d) : l.take (i + 1) = l.take i ++ [d] := by
  rw [List.take_add_one, h]; rfl
section
variable {prog : Program} {w : World} {A : Around} {E : Value → Shared → Prop} {s : Shared}
theorem truthy_ne {k : Int} {t : Tok} {Q : Bool → Shared → Prop} (h : k ≠ 0) (hq : Q true s) : wpAny (model prog w) A (truthy (.int k t)) Q E s := truthy_int (by rw [bne_iff_ne.mpr h]; exact hq)
theorem truthy_zero {k : Int} {t : Tok} {Q : Bool → Shared → Prop} (h : k = 0) (hq : Q false s) : wpAny (model prog w) A (truthy (.int k t)) Q E s := truthy_int (by rw [h]; exact hq)
end
theorem rise_skip {ns : List Int} {i : Nat} {ys : List Value} {k : Int} (h : ys.length = riseF (ns.take i)) (hk : ns[i]? = some k) (h0 : k = 0) : ys.length = riseF (ns.take (i + 1)) := by
  rw [take_snocG hk]
  unfold riseF at *
  rw [List.filter_append, h0]
  simpa using h
theorem rise_take {ns : List Int} {i : Nat} {ys : List Value} {k : Int} {v : Value} (h : ys.length = riseF (ns.take i)) (hk : ns[i]? = some k) (h0 : k ≠ 0) : (ys ++ [v]).length = riseF (ns.take (i + 1)) := by
  rw [take_snocG hk]
  unfold riseF at *
  rw [List.filter_append, List.length_append, List.length_append, h]
  simp [h0]
theorem rise_le (ns : List Int) : riseF ns ≤ ns.length := List.length_filter_le _ _
theorem sum_le : ∀ {ns : List Int}, (∀ k ∈ ns, 0 ≤ k ∧ k ≤ 100) → 0 ≤ ns.sum ∧ ns.sum ≤ 100 * ns.length
  | [], _ => ⟨Int.le_refl _, Int.le_refl _⟩
  | n :: r, h => by
    have h1 := h n List.mem_cons_self
    have h2 := sum_le (ns := r) fun k hk => h k (List.mem_cons_of_mem _ hk)
    simp only [List.sum_cons, List.length_cons]
    omega
theorem nd_fin {g : Heap} {L' R : Addr} {o : Obj} {s : Shared} {h' : Heap} {tk' : Nat} {m' : Str → Option Value} {news : Led} {a b : Int} {t : Tok} (F : Fr g L' h' m') (N : News g L' h' news) (hm : (R, o) ∈ news) (e : b = a) :
    Fin g L' [(R, o)] (fun tl v => tl = [] ∧ ∃ t, v = .int a t) s (.ret (.int b t)) { s with heap := h', toks := tk' } :=
  ⟨[], m', h', tk', rfl, F, fun p hp => N p (by rw [List.mem_singleton.mp hp]; exact hm), by simp, rfl, t, by rw [e]⟩
local macro_rules | `(tactic| walk_at "truthy int") => `(tactic| (k_here; first | refine truthy_ne (by assumption) ?_ | refine truthy_zero (by assumption) ?_))
local macro_rules | `(tactic| walk_at "call builtin:len") => `(tactic| (k_here; (with_reducible show wpAny _ _ (call (Value.builtin _) [Value.ref _]) _ _ _); k_dflt (refine' lst_len ?N ?e ?k ?f ?_; (case N => k_asm); (case e => (repeat first | exact List.mem_cons_self | apply List.mem_cons_of_mem)); (case k => assumption); (case f => omega); intro _ _)))
local macro_rules | `(tactic| walk_at "eval ListComp") => `(tactic| (k_here; lct_look; k_dflt (refine LCt.ListComp_T (F₀ := by k_asm) (by with_unfolding_all rfl) (by decide) (by rfl) (by decide) (by rfl) ?_); k_dflt lct_toSrc))
local macro_rules | `(tactic| walk_at "CompSrcT") => `(tactic| (k_here; k_dflt (refine LCt.CompSrcT.ledger (by rfl) (by k_asm) (by k_asm) (by k_mem) ?z ?_; (case z => (rw [List.size_toArray, IntsAre.length (by assumption), sizeLine_eq]; omega)); intro g'; refine Held.out ?_)))
set_option maxHeartbeats 0 in
theorem need_ct (w : World) (G : Addr) (vs : List Value) (ns : List Int) (n : Nat) (d : Int) (t : Tok) (hv : IntsAre vs ns) (hl : ns.length ≤ 8) (hb : ∀ k ∈ ns, 0 ≤ k ∧ k ≤ 100) (hd0 : 0 ≤ d) (hd1 : d ≤ 100) :
    Ct w 210 [.ref G, .int d t] [] 3 40 [(G, listOf vs.toArray n)] (fun tl v => tl = [] ∧ ∃ t, v = .int (needF ns d) t) := by
  refine' ct_intro (binds := [(Str.ofString "group", .ref G), (Str.ofString "dots", .int d t)]) ?ho ?hcd ?hb ?hl ?hc ?hco ?hg ?hk ?hdd ?body
  case ho => k_is
  case hcd => k_is
  case hb => exact fun s X => BindsTo.of_eq rfl
  case hl => exact rfl
  case hc => decide
  case hco => exact rfl
  case hg => exact rfl
  case hk => exact rfl
  case hdd => decide
  intro p loose mean mg mb dp un gd cn cs a ccd cl outer base g L L' s B F X N T hlt hd hu
  k_fold
  have hsum := sum_le hb
  k_steps
  rename Fr _ _ _ _ => lF
  rename News _ _ _ _ => lN
  unfold Held
  refine compT_inv (fun i ys => ys.length = riseF (ns.take i)) rfl (fun ys e => ?fin) ?turn
  case turn =>
    clear lF lN
    rintro i ys v I oI C oC D m₂ h tk E' hi hys hP hns hx lF lN off ne
    obtain ⟨k, t1, rfl, hk⟩ := int_get hv (by simpa using hP)
    by_cases h0 : k = 0
    · k_steps
      rename Fr _ _ _ _ => F'
      rename News _ _ _ _ => N'
      refine comp_same F' N' off (src_here (List.mem_cons_self)) ?_
      exact ⟨rfl, rise_skip hys hk h0⟩
    · k_steps
      rename Fr _ _ _ _ => F'
      rename News _ _ _ _ => N'
      refine comp_same F' N' off (src_here (List.mem_cons_self)) ?_
      exact ⟨rfl, rise_take hys hk h0⟩
  case fin =>
    clear lF lN
    rw [List.size_toArray, hv.length, List.take_length] at e
    have hr := rise_le ns
    k_steps
    all_goals (rename Fr _ _ _ _ => F'; rename News _ _ _ _ => N')
    all_goals (with_unfolding_all refine nd_fin F' N' (List.mem_cons_of_mem _ List.mem_cons_self) ?_)
    all_goals (unfold needF)
    all_goals (repeat' split)
    all_goals (first | rfl | omega)
end Mine
end PartNd
section PartRw
open PySem PySem.Spec PySem.W PyProof.Rows PySem.Calls
set_option Elab.async false
set_option maxRecDepth 100000
namespace Mine
theorem fill_Rw (w : World) : (fun (_ : Program) (_ : Frag) => True) PySem.Challenge.rw_kq0062_01.row.prog (hd.heap_1 w.params) := by
  k_fill
  trivial
noncomputable def alphaS : Str := Str.ofString "ABCDEFGHIJKLMNOPQRSTUVWXYZabcdefghijklmnopqrstuvwxyz0123456789"
noncomputable def xyzS : Str := Str.ofString "xyz"
noncomputable def dotsF (c m : Int) : Nat := (Int.fmod c m).toNat
noncomputable def markF (c m : Int) : Nat := if (Int.fdiv c m).fmod 4 < 3 then (Txt.charAt xyzS ((Int.fdiv c m).fmod 4)).getD 0 else (Txt.charAt alphaS (((Int.fdiv c m).fdiv 4).fmod 62)).getD 0
noncomputable def rowObj (d m : Nat) (t1 t2 : Tok) : Obj := { cls := .type "tuple", data := .seq #[.int (d : Int) t1, .str ⟨#[m]⟩ t2] }
/-- a letter or a figure -/
noncomputable def okm (c : Nat) : Bool := (48 ≤ c && c ≤ 57) || (65 ≤ c && c ≤ 90) || (97 ≤ c && c ≤ 122)
theorem alpha_ok : ∀ k : _root_.Fin 62, okm ((Txt.charAt alphaS (k.val : Int)).getD 0) = true := by decide +kernel
theorem xyz_ok : ∀ k : _root_.Fin 3, okm ((Txt.charAt xyzS (k.val : Int)).getD 0) = true := by decide +kernel
theorem mark_ok (c m : Int) : okm (markF c m) = true := by
  unfold markF
  split
  · rename_i h
    have h0 : 0 ≤ (Int.fdiv c m).fmod 4 := Int.fmod_nonneg_of_pos _ (by decide)
    have := xyz_ok ⟨((Int.fdiv c m).fmod 4).toNat, by omega⟩
    rwa [show ((((Int.fdiv c m).fmod 4).toNat : Nat) : Int) = (Int.fdiv c m).fmod 4 by omega] at this
  · have h0 : 0 ≤ ((Int.fdiv c m).fdiv 4).fmod 62 := Int.fmod_nonneg_of_pos _ (by decide)
    have h1 : ((Int.fdiv c m).fdiv 4).fmod 62 < 62 := Int.fmod_lt_of_pos _ (by decide)
    have := alpha_ok ⟨(((Int.fdiv c m).fdiv 4).fmod 62).toNat, by omega⟩
    rwa [show (((((Int.fdiv c m).fdiv 4).fmod 62).toNat : Nat) : Int) = ((Int.fdiv c m).fdiv 4).fmod 62 by omega] at this
theorem dots_lt (c m : Int) (hm : 1 ≤ m) : (dotsF c m : Int) < m := by
  have h1 := Int.fmod_nonneg_of_pos c (show 0 < m by omega)
  have h2 := Int.fmod_lt_of_pos c (show 0 < m by omega)
  unfold dotsF
  omega
theorem dots_is (c m : Int) (hm : 1 ≤ m) : Int.fmod c m = (dotsF c m : Int) := by
  have h1 := Int.fmod_nonneg_of_pos c (show 0 < m by omega)
  unfold dotsF
  omega
noncomputable def RowPost (d m : Nat) (tl : Led) (v : Value) : Prop := ∃ T t1 t2, v = .ref T ∧ tl = [(T, rowObj d m t1 t2)]
theorem rw_fin {g : Heap} {L' D : Addr} {s : Shared} {h' : Heap} {tk' : Nat} {m' : Str → Option Value} {c m : Int} {x : Str} {t1 t2 : Tok} (F : Fr g L' h' m') (N : News g L' h' [(D, { cls := .type "tuple", data := .seq #[.int (Int.fmod c m) t1, .str x t2] })]) (hm : 1 ≤ m) (hx : x = ⟨#[markF c m]⟩) :
    Fin g L' [] (RowPost (dotsF c m) (markF c m)) s (.ret (.ref D)) { s with heap := h', toks := tk' } := by
  subst hx
  rw [dots_is c m hm] at N
  exact ⟨[_], m', h', tk', rfl, F, N, by simp, D, t1, t2, rfl, rfl⟩
theorem item_lo {c m : Int} (h : (Int.fdiv c m).fmod 4 < 3) : Txt.item (Str.ofString "xyz") ((Int.fdiv c m).fmod 4) = ⟨#[markF c m]⟩ := by
  unfold markF
  rw [if_pos h]
  rfl
theorem item_hi {c m : Int} (h : ¬ (Int.fdiv c m).fmod 4 < 3) : Txt.item (Str.ofString "ABCDEFGHIJKLMNOPQRSTUVWXYZabcdefghijklmnopqrstuvwxyz0123456789") (((Int.fdiv c m).fdiv 4).fmod 62) = ⟨#[markF c m]⟩ := by
  unfold markF
  rw [if_neg h]
  rfl
set_option maxHeartbeats 0 in
theorem row_ct (w : World) (c m : Int) (t u : Tok) (hc0 : 0 ≤ c) (hc1 : c < 1000000) (hm0 : 1 ≤ m) (hm1 : m ≤ 7) :
    Ct w 181 [.int c t, .int m u] [] 3 40 [] (RowPost (dotsF c m) (markF c m)) := by
  refine' ct_intro (binds := [(Str.ofString "cell", .int c t), (Str.ofString "most", .int m u)]) ?ho ?hcd ?hb ?hl ?hc ?hco ?hg ?hk ?hdd ?body
  case ho => k_is
  case hcd => k_is
  case hb => exact fun s X => BindsTo.of_eq rfl
  case hl => exact rfl
  case hc => decide
  case hco => exact rfl
  case hg => exact rfl
  case hk => exact rfl
  case hdd => decide
  intro p loose mean mg mb dp un gd cn cs a ccd cl outer base g L L' s B F X N T hlt hd hu
  k_fold
  k_steps
  all_goals (rename Fr _ _ _ _ => F'; rename News _ _ _ _ => N')
  all_goals (with_unfolding_all refine rw_fin F' N' hm0 ?_)
  · exact item_lo (by assumption)
  · exact item_hi (by assumption)
end Mine
end PartRw
section PartWw
open PySem PySem.Spec PySem.W PyProof.Rows PySem.Calls
set_option Elab.async false
set_option maxRecDepth 100000
namespace Mine
theorem fill_Ww (w : World) : (fun (_ : Program) (_ : Frag) => True) PySem.Challenge.rw_kq0062_01.row.prog (hd.heap_1 w.params) := by
  k_fill
  trivial
/-- rows of the ledger -/
inductive RowsAre (T : Led) : List Value → List (Nat × Nat) → Prop
  | nil : RowsAre T [] []
  | cons {a : Addr} {d m : Nat} {t1 t2 : Tok} {vs : List Value} {rs : List (Nat × Nat)} : (a, rowObj d m t1 t2) ∈ T → RowsAre T vs rs → RowsAre T (.ref a :: vs) ((d, m) :: rs)
theorem RowsAre.length {T : Led} {vs : List Value} {rs : List (Nat × Nat)} (h : RowsAre T vs rs) : vs.length = rs.length := by
  induction h with
  | nil => rfl
  | cons _ _ ih => simp [ih]
theorem RowsAre.get {T : Led} {vs : List Value} {rs : List (Nat × Nat)} (h : RowsAre T vs rs) : ∀ {i : Nat} {v : Value}, vs[i]? = some v → ∃ a d m t1 t2, v = .ref a ∧ (a, rowObj d m t1 t2) ∈ T ∧ rs[i]? = some (d, m) := by
  induction h with
  | nil => intro i v e; simp at e
  | @cons a d m t1 t2 vs rs hm _ ih =>
    intro i v e
    cases i with
    | zero =>
      simp only [List.getElem?_cons_zero, Option.some.injEq] at e
      exact ⟨a, d, m, t1, t2, e.symm, hm, rfl⟩
    | succ i =>
      simp only [List.getElem?_cons_succ] at e ⊢
      exact ih e
noncomputable def rowSigns (r : Nat × Nat) : List Nat := List.replicate r.1 46 ++ [r.2, 10]
noncomputable def wordL (rs : List (Nat × Nat)) : List Nat := rs.flatMap rowSigns
noncomputable def wordS (rs : List (Nat × Nat)) : Str := ⟨(wordL rs).toArray⟩
section
open PyProof.Rows.LCg PyProof.Rows.LCt
variable {prog : Program} {w : World} {A : Around} {h₀ : Heap} {L : Addr} {m : Str → Option Value} {env : Env} {s : Shared}
theorem compP_inv {elt : Expr} {x x₂ : Str} {scope : Scope} {cl : List (Str × Addr)} {S : Led → Prop} {P : Nat → Value → Prop} {Fin : List Value → Led → Prop} {n : Nat} {news : Led} (Inv : Nat → List Value → Prop) (h0 : Inv 0 []) (fin : ∀ ys, Inv n ys → Fin ys news)
    (pair : ∀ i v, P i v → ∃ (t : Addr) (ot : Obj) (v₁ v₂ : Value) (nt : Nat), v = .ref t ∧ (t, ot) ∈ news ∧ ot.cls = .type "tuple" ∧ ot.data = .seq #[v₁, v₂] nt ∧ ∀ ys, i < n → Inv i ys →
      ∀ I oI C oC D m₂ h tk (E' : Value → Shared → Prop), NsObj oC m₂ → m₂ x = some v₁ → m₂ x₂ = some v₂ → Fr h₀ L h m → News h₀ L h ((I, oI) :: (C, oC) :: (D, lst ys) :: news) → Off3 I C D news → ((@Ne Nat I C) ∧ (@Ne Nat I D) ∧ (@Ne Nat C D)) →
      wpAny (model prog w) A (eval elt (compEnvC scope cl C env)) (CompEnd h₀ L m { s with heap := h, toks := tk } I oI C oC D (lst ys) S (fun y news' => news' = news ∧ Inv (i + 1) (ys ++ [y]))) E' { s with heap := h, toks := tk }) :
    LCp.CompRestP prog w A h₀ L m env elt x x₂ scope cl s S P Fin n 0 [] news := by
  have go : ∀ k i ys, i + k = n → Inv i ys → LCp.CompRestP prog w A h₀ L m env elt x x₂ scope cl s S P Fin k i ys news := by
    intro k
    induction k with
    | zero => intro i ys e hI; exact LCp.CompRestP.zero (fin ys ((show i = n by omega) ▸ hI))
    | succ k ih =>
      intro i ys e hI
      refine LCp.CompRestP.succ fun v hP => ?_
      obtain ⟨t, ot, v₁, v₂, nt, e1, e2, e3, e4, turn⟩ := pair i v hP
      refine ⟨t, ot, v₁, v₂, nt, e1, e2, e3, e4, fun I oI C oC D m₂ h tk E' hns hx hx2 F N off ne => ?_⟩
      refine wpAny_mono (turn ys (by omega) hI I oI C oC D m₂ h tk E' hns hx hx2 F N off ne) (fun y s' hc => compEnd_mono (fun y n' hy => ?_) hc) fun _ _ e => e
      obtain ⟨rfl, hI'⟩ := hy
      exact ih (i + 1) _ (by omega) hI'
  exact go n 0 [] (by omega) h0
end
theorem row_text (d m : Nat) : Txt.mul (Str.ofString ".") (d : Int) ++ (⟨#[m]⟩ : Str) ++ Str.ofString "\n" = ⟨(rowSigns (d, m)).toArray⟩ := by
  refine str_eq ?_
  show (((Txt.mul (Str.ofString ".") (d : Int)).cps ++ #[m]) ++ (Str.ofString "\n").cps).toList = _
  rw [Array.toList_append, Array.toList_append, show Str.ofString "." = ⟨#[46]⟩ from by decide, mul_one_list]
  show _ = List.replicate d 46 ++ [m, 10]
  rw [Int.toNat_natCast, List.append_assoc]
  rfl
theorem join_none : ∀ l : List Str, (Str.join (Str.ofString "") l).cps.toList = l.flatMap fun x => x.cps.toList
  | [] => rfl
  | [x] => by
    show x.cps.toList = x.cps.toList ++ []
    rw [List.append_nil]
  | x :: y :: r => by
    rw [join_cons_cons]
    have ih := join_none (y :: r)
    show ((x.cps ++ (Str.ofString "").cps) ++ (Str.join (Str.ofString "") (y :: r)).cps).toList = _
    rw [Array.toList_append, Array.toList_append, ih]
    have e : (Str.ofString "").cps.toList = [] := rfl
    rw [e, List.append_nil]
    rfl
theorem word_join (rs : List (Nat × Nat)) : Txt.join (Str.ofString "") (rs.map fun r => ⟨(rowSigns r).toArray⟩) = wordS rs := by
  unfold Txt.join
  rw [StrLaws.glued_eq_join]
  refine str_eq ?_
  rw [join_none, List.flatMap_map]
  show _ = wordL rs
  unfold wordL
  congr 1
theorem row_len {rs : List (Nat × Nat)} (hd : ∀ r ∈ rs, r.1 ≤ 50) : ((rs.map fun r => (⟨(rowSigns r).toArray⟩ : Str)).map (·.length)).sum ≤ 52 * rs.length := by
  induction rs with
  | nil => exact Nat.le_refl _
  | cons r rs ih =>
    have h1 := ih fun q hq => hd q (List.mem_cons_of_mem _ hq)
    have h2 := hd r List.mem_cons_self
    have h3 : (⟨(rowSigns r).toArray⟩ : Str).length = r.1 + 2 := by
      show (rowSigns r).toArray.size = _
      rw [List.size_toArray]
      unfold rowSigns
      simp
    simp only [List.map_cons, List.sum_cons, List.length_cons] at h1 ⊢
    omega
theorem ww_take {rs : List (Nat × Nat)} {i d m : Nat} {ys : List Value} {x : Str} {t : Tok} (h : StrsAre ys ((rs.take i).map fun r => ⟨(rowSigns r).toArray⟩)) (hc : rs[i]? = some (d, m)) (hx : x = ⟨(rowSigns (d, m)).toArray⟩) : StrsAre (ys ++ [Value.str x t]) ((rs.take (i + 1)).map fun r => ⟨(rowSigns r).toArray⟩) := by
  subst hx
  rw [take_snocG hc, List.map_append]
  exact strs_snoc _ _ h
theorem fin_nil {g : Heap} {L' : Addr} {need news : Led} {post : Led → Value → Prop} {s : Shared} {h' : Heap} {tk' : Nat} {m' : Str → Option Value} {v : Value} (F : Fr g L' h' m') (N : News g L' h' news) (hs : ∀ q ∈ need, q ∈ news) (hp : post [] v) :
    Fin g L' need post s (.ret v) { s with heap := h', toks := tk' } :=
  ⟨[], m', h', tk', rfl, F, fun q hq => N q (hs q hq), (fun _ _ _ h => nomatch h), hp⟩
local macro_rules | `(tactic| walk_at "call builtin:str.join") => `(tactic| (k_here; (with_reducible show wpAny _ _ (call (Value.builtin _) [Value.str _ _, Value.ref _]) _ _ _); k_dflt (refine' lst_join ?N ?e ?y ?j ?sp ?ww ?_; (case N => k_asm); (case e => exact List.mem_cons_self); (case y => assumption); (case j => first | assumption | exact rfl); (case sp => decide); (case ww => assumption); intro _ _)))
local macro_rules | `(tactic| walk_at "eval ListComp") => `(tactic| (k_here; lcp_look; k_dflt (refine LCp.ListComp_P (F₀ := by k_asm) (by with_unfolding_all rfl) (by decide) (by rfl) (by decide) (by rfl) (by rfl) (by decide) ?_); k_dflt lcp_toSrc))
local macro_rules | `(tactic| walk_at "SrcLP") => `(tactic| (k_here; k_dflt (refine LCp.SrcLP.ledger (by rfl) (by k_asm) (by k_asm) (by exact List.mem_cons_self) ?z ?_; (case z => (rw [List.size_toArray, RowsAre.length (by assumption), sizeLine_eq]; omega)); intro g'; refine Held.out ?_)))
set_option maxHeartbeats 0 in
theorem word_ct (w : World) (R : Addr) (vs : List Value) (n : Nat) (T9 : Led) (rs : List (Nat × Nat)) (hv : RowsAre T9 vs rs) (hl : rs.length ≤ 8) (hdots : ∀ r ∈ rs, r.1 ≤ 50) :
    Ct w 186 [.ref R] [] 3 40 ((R, listOf vs.toArray n) :: T9) (fun tl v => tl = [] ∧ ∃ t, v = .str (wordS rs) t) := by
  refine' ct_intro (binds := [(Str.ofString "rows", .ref R)]) ?ho ?hcd ?hb ?hl ?hc ?hco ?hg ?hk ?hdd ?body
  case ho => k_is
  case hcd => k_is
  case hb => exact fun s X => BindsTo.of_eq rfl
  case hl => exact rfl
  case hc => decide
  case hco => exact rfl
  case hg => exact rfl
  case hk => exact rfl
  case hdd => decide
  intro p loose mean mg mb dp un gd cn cs a ccd cl outer base g L L' s B F X N T hlt hd hu
  k_fold
  k_steps
  rename Fr _ _ _ _ => lF
  rename News _ _ _ _ => lN
  unfold Held
  refine compP_inv (fun i ys => StrsAre ys ((rs.take i).map fun r => ⟨(rowSigns r).toArray⟩)) .nil (fun ys e => ?fin) ?turn
  case turn =>
    clear lF lN
    rintro i v hP
    obtain ⟨a, d, m, t1, t2, rfl, hm, hr⟩ := hv.get (by simpa using hP)
    refine ⟨a, _, _, _, _, rfl, List.mem_cons_of_mem _ hm, rfl, rfl, ?_⟩
    rintro ys hi hys I oI C oC D m₂ h tk E' hns hx hx2 lF lN off ne
    have hd1 : d ≤ 50 := hdots (d, m) (List.mem_of_getElem? hr)
    k_steps
    rename Fr _ _ _ _ => F'
    rename News _ _ _ _ => N'
    refine comp_same F' N' off (src_here (List.mem_cons_self)) ?_
    exact ⟨rfl, ww_take hys hr (row_text d m)⟩
  case fin =>
    clear lF lN
    rw [List.size_toArray, hv.length, List.take_length] at e
    have hw := row_len hdots
    have hww : ((rs.map fun r => (⟨(rowSigns r).toArray⟩ : Str)).map (·.length)).sum + (rs.map fun r => (⟨(rowSigns r).toArray⟩ : Str)).length ≤ 1048576 := by
      rw [List.length_map]; omega
    have hj := word_join rs
    k_steps
    rename Fr _ _ _ _ => F'
    rename News _ _ _ _ => N'
    with_unfolding_all exact fin_nil F' N' (fun q hq => List.mem_cons_of_mem _ hq) ⟨rfl, _, rfl⟩
end Mine
end PartWw
section PartLs
open PySem PySem.Spec PySem.W PyProof.Rows PySem.Calls
set_option Elab.async false
set_option maxRecDepth 100000
namespace Mine
theorem fill_Ls (w : World) : (fun (_ : Program) (_ : Frag) => True) PySem.Challenge.rw_kq0062_01.row.prog (hd.heap_1 w.params) := by
  k_fill
  trivial
noncomputable def dotsI (rs : List (Nat × Nat)) : List Int := rs.map fun r => (r.1 : Int)
noncomputable def grp (rs : List (Nat × Nat)) (first last : Nat) : List (Nat × Nat) := (rs.drop first).take (last - first)
noncomputable def stepMin (rs : List (Nat × Nat)) (best : List Int) (d last : Nat) (acc : Int) (first : Nat) : Int := min acc (max (best.getD first 0) (needF (dotsI (grp rs first last)) d))
noncomputable def leastAt (rs : List (Nat × Nat)) (best : List Int) (d m last : Nat) : Int := if (rs.getD (last - 1) (0, 0)).2 = m then (List.range last).foldl (stepMin rs best d last) 7 else 7
noncomputable def nextBest (rs : List (Nat × Nat)) (best : List Int) (d m : Nat) : List Int := 7 :: (List.range rs.length).map fun l => leastAt rs best d m (l + 1)
noncomputable def bestAll (rs ws : List (Nat × Nat)) : List Int := ws.foldl (fun b r => nextBest rs b r.1 r.2) (0 :: List.replicate rs.length 7)
theorem ints_snocG {vs : List Value} {ns : List Int} {n : Int} {t : Tok} (h : IntsAre vs ns) : IntsAre (vs ++ [.int n t]) (ns ++ [n]) := by
  induction h with
  | nil => exact .cons n t .nil
  | cons a ta _ ih => exact .cons a ta ih
theorem RowsAre.drop {T : Led} {vs : List Value} {rs : List (Nat × Nat)} (h : RowsAre T vs rs) : ∀ k : Nat, RowsAre T (vs.drop k) (rs.drop k) := by
  induction h with
  | nil => intro k; simp; exact .nil
  | cons hm h0 ih =>
    intro k
    cases k with
    | zero => exact .cons hm h0
    | succ k => exact ih k
theorem RowsAre.take {T : Led} {vs : List Value} {rs : List (Nat × Nat)} (h : RowsAre T vs rs) : ∀ k : Nat, RowsAre T (vs.take k) (rs.take k) := by
  induction h with
  | nil => intro k; simp; exact .nil
  | cons hm h0 ih =>
    intro k
    cases k with
    | zero => exact .nil
    | succ k => exact .cons hm (ih k)
theorem next_len (rs : List (Nat × Nat)) (best : List Int) (d m : Nat) : (nextBest rs best d m).length = rs.length + 1 := by
  unfold nextBest
  simp
theorem ls_take {rs : List (Nat × Nat)} {i d m : Nat} {ys : List Value} {t : Tok} (h : IntsAre ys (dotsI (rs.take i))) (hc : rs[i]? = some (d, m)) : IntsAre (ys ++ [Value.int (d : Int) t]) (dotsI (rs.take (i + 1))) := by
  rw [take_snocG hc]
  unfold dotsI at *
  rw [List.map_append]
  exact ints_snocG h
theorem dotsI_ok {rs : List (Nat × Nat)} (h : ∀ r ∈ rs, r.1 ≤ 50) : ∀ k ∈ dotsI rs, 0 ≤ k ∧ k ≤ 100 := by
  intro k hk
  obtain ⟨r, hr, rfl⟩ := List.mem_map.mp hk
  have := h r hr
  omega
theorem grp_mem {rs : List (Nat × Nat)} {a b : Nat} {r : Nat × Nat} (h : r ∈ grp rs a b) : r ∈ rs := List.mem_of_mem_drop (List.mem_of_mem_take h)
theorem need_ct' {w : World} {G : Addr} {vs : List Value} {ns : List Int} {n : Nat} {d : Int} {t : Tok} (hv : IntsAre vs ns) (hl : ns.length ≤ 8) (hb : ∀ k ∈ ns, 0 ≤ k ∧ k ≤ 100) (hd0 : 0 ≤ d) (hd1 : d ≤ 100) :
    Ct w 210 [.ref G, .int d t] [] 3 40 [(G, listOf vs.toArray n)] (fun tl v => tl = [] ∧ ∃ t, v = .int (needF ns d) t) := need_ct w G vs ns n d t hv hl hb hd0 hd1
noncomputable def LeastPost (rs wr : List (Nat × Nat)) (tl : Led) (v : Value) : Prop := tl = [] ∧ ∃ M t, v = .int M t ∧ M ∈ bestAll rs wr ∧ ∀ a ∈ bestAll rs wr, M ≤ a
structure OuS where
  B : Addr
  bvs : List Value
  bns : List Int
  e : Nat
structure MiS where
  lvs : List Value
  lns : List Int
  e : Nat
structure InS where
  l : Int
  t : Tok
noncomputable abbrev ouL (R W : Addr) (vs ws : List Value) (n k : Nat) (T9 : Led) (c : OuS) : Led := (c.B, listOf c.bvs.toArray c.e) :: (R, listOf vs.toArray n) :: (W, listOf ws.toArray k) :: T9
theorem ou_start {g h : Heap} {L R W D q1 q2 q3 : Addr} {o1 o2 o3 : Obj} {vs ws : List Value} {n k : Nat} {T9 : Led} {a b : Tok} {m : Str → Option Value} (_F : Fr g L h m)
    (N : News g L h ((D, listOf #[.int 0 a, .int 7 b, .int 7 b, .int 7 b, .int 7 b, .int 7 b] 0) :: (q1, o1) :: (q2, o2) :: (q3, o3) :: (R, listOf vs.toArray n) :: (W, listOf ws.toArray k) :: T9)) (hm : m (Str.ofString "best") = some (.ref D)) :
    ∃ c : OuS, News g L h (ouL R W vs ws n k T9 c) ∧ m (Str.ofString "best") = some (.ref c.B) ∧ IntsAre c.bvs c.bns ∧ c.bns = [0, 7, 7, 7, 7, 7] := by
  refine ⟨⟨D, [.int 0 a, .int 7 b, .int 7 b, .int 7 b, .int 7 b, .int 7 b], [0, 7, 7, 7, 7, 7], 0⟩, fun p hp => N p ?_, hm, .cons _ _ (.cons _ _ (.cons _ _ (.cons _ _ (.cons _ _ (.cons _ _ .nil))))), rfl⟩
  rcases List.mem_cons.mp hp with h | h
  · exact h ▸ List.mem_cons_self
  · exact List.mem_cons_of_mem _ (List.mem_cons_of_mem _ (List.mem_cons_of_mem _ (List.mem_cons_of_mem _ h)))
noncomputable abbrev miL (D : Addr) (T : Led) (c : MiS) : Led := (D, listOf c.lvs.toArray c.e) :: T
theorem mi_start {g h : Heap} {L D : Addr} {T : Led} {a : Tok} {m : Str → Option Value} (_F : Fr g L h m) (N : News g L h ((D, listOf #[.int 7 a] 0) :: T)) (hl : AllLt D T) :
    ∃ c : MiS, News g L h (miL D T c) ∧ IntsAre c.lvs c.lns ∧ c.lns = [7] ∧ ∀ p ∈ T, p.1 ≠ D := ⟨⟨[.int 7 a], [7], 0⟩, N, .cons _ _ .nil, rfl, fun p hp => Nat.ne_of_lt (kst_ltOf hl p hp)⟩
theorem size_one {a b : Int} {n : Nat} (h : b - a = (n : Int)) : Builtin.Range.rangeSize a b 1 = (n : Int) := by
  unfold Builtin.Range.rangeSize
  simp only [show ((1 : Int) > 0) by decide, if_true, Int.ediv_one]
  split <;> omega
theorem small_1 {a b : Int} (h1 : 0 ≤ a) (h2 : a ≤ 1000) (h3 : 0 ≤ b) (h4 : b ≤ 1000) : Builtin.Range.small a b 1 = true := small_one (by omega) (by omega) (by omega) (by omega)
section
variable {prog : Program} {w : World} {A : Around} {E : Value → Shared → Prop} {s : Shared} {h₀ : Heap} {L : Addr} {news : Led} {Q : Value → Shared → Prop}
theorem row_dots {value slice : Expr} {a : Addr} {d m : Nat} {t1 t2 u : Tok} (N : News h₀ L s.heap news) (hm : (a, rowObj d m t1 t2) ∈ news) (h : Q (.int (d : Int) t1) s)
    (hs : subscripted slice false (.ref a) (.int 0 u) = operate [.ref a, .int 0 u] (getItem (.ref a) (.int 0 u)) := by with_unfolding_all rfl) :
    wpAny (model prog w) A (subscriptTail value slice (.ref a) (.int 0 u)) Q E s :=
  item_tupleT (l := [.int (d : Int) t1, .str ⟨#[m]⟩ t2]) (News.isTup N hm) (by decide) (by decide) (j := 0) rfl rfl h hs
theorem row_mark {value slice : Expr} {a : Addr} {d m : Nat} {t1 t2 u : Tok} (N : News h₀ L s.heap news) (hm : (a, rowObj d m t1 t2) ∈ news) (h : Q (.str ⟨#[m]⟩ t2) s)
    (hs : subscripted slice false (.ref a) (.int 1 u) = operate [.ref a, .int 1 u] (getItem (.ref a) (.int 1 u)) := by with_unfolding_all rfl) :
    wpAny (model prog w) A (subscriptTail value slice (.ref a) (.int 1 u)) Q E s :=
  item_tupleT (l := [.int (d : Int) t1, .str ⟨#[m]⟩ t2]) (News.isTup N hm) (by decide) (by decide) (j := 1) rfl rfl h hs
theorem lst_itemE {value slice : Expr} {D : Addr} {vs : List Value} {n k : Nat} {i : Int} {u : Tok} {x : Value} (N : News h₀ L s.heap news) (hm : (D, listOf vs.toArray n) ∈ news) (hi : i = (k : Int)) (hx : vs[k]? = some x) (hl : vs.length ≤ 1000) (h : Q x s)
    (hs : subscripted slice false (.ref D) (.int i u) = operate [.ref D, .int i u] (getItem (.ref D) (.int i u)) := by with_unfolding_all rfl) :
    wpAny (model prog w) A (subscriptTail value slice (.ref D) (.int i u)) Q E s := by
  subst hi
  have hk : k < vs.length := (List.getElem?_eq_some_iff.mp hx).1
  exact lst_item N hm (by omega) (by omega) (by rw [Int.toNat_natCast]; exact hx) h hs
theorem lst_app {D J : Addr} {oj : Obj} {rest : Led} {m : Str → Option Value} {its : Array Value} {n : Nat} {x : Value} (F : Fr h₀ L s.heap m) (N : News h₀ L s.heap ((J, oj) :: (D, listOf its n) :: rest)) (hj : J ≠ D) (hr : ∀ p ∈ rest, p.1 ≠ D) (hz : its.size ≤ 1000)
    (h : ∀ h', Fr h₀ L h' m → News h₀ L h' ((J, oj) :: (D, listOf (its.push x) (n + 1)) :: rest) → Q .none { s with heap := h' }) : wpAny (model prog w) A (call (.builtin "list.append") [.ref D, x]) Q E s :=
  append_K F N (.tail hj (.head hr)) h (by rw [sizeLine_eq]; omega)
theorem lst_slice {value slice : Expr} {D : Addr} {vs : List Value} {n a b : Nat} {m : Str → Option Value} {i j : Int} {ui uj : Tok} (F : Fr h₀ L s.heap m) (N : News h₀ L s.heap news) (hm : (D, listOf vs.toArray n) ∈ news) (hi : i = (a : Int)) (hj : j = (b : Int)) (hab : a ≤ b) (hb : b ≤ vs.length) (hz : vs.length ≤ 1000)
    (h : ∀ D' h', Fr h₀ L h' m → News h₀ L h' ((D', listOf ((vs.drop a).take (b - a)).toArray 0) :: news) → (∀ p ∈ news, p.1 < D') → Q (.ref D') { s with heap := h' })
    (hs : subscripted slice false (.ref D) (.ref s.heap.objs.size) = operate [.ref s.heap.objs.size, .ref D] (getItem (.ref D) (.ref s.heap.objs.size)) := by with_unfolding_all rfl) (ht : ∀ r, letTemporaryGo value (.ref D) r = pure () := by intro _; with_unfolding_all rfl) :
    wpAny (model prog w) A (subscriptTail value slice (.ref D) (.ref s.heap.objs.size)) Q E { s with heap := s.heap.push { cls := .type "slice", data := .fields #[.int i ui, .int j uj, .none] } } := by
  subst hi hj
  exact kmk_slice_lit F N ⟨_, (N _ hm).1, rfl, _, rfl⟩ (.int _ _) (.int _ _) (by rw [slicePick_run _ _ _ (by simpa using hb) hab]) h hs ht (by rw [List.size_toArray, sizeLine_eq]; omega)
theorem cmp_mark_eq {m k : Nat} {t u : Tok} (e : m = k) (h : Q (.bool true) s) : wpAny (model prog w) A (compareOp .Eq (.str ⟨#[m]⟩ t) (.str ⟨#[k]⟩ u)) Q E s := cmp_str (by rw [e]; exact beq_self_eq_true _) h
theorem cmp_mark_ne {m k : Nat} {t u : Tok} (e : m ≠ k) (h : Q (.bool false) s) : wpAny (model prog w) A (compareOp .Eq (.str ⟨#[m]⟩ t) (.str ⟨#[k]⟩ u)) Q E s := cmp_str (beq_eq_false_iff_ne.mpr fun q => e (by simpa using q)) h
end
local macro_rules | `(tactic| walk_at "subscriptTail Name Constant ref int") => `(tactic| (k_here; k_dflt (first | ((with_reducible show wpAny _ _ (subscriptTail _ _ (Value.ref _) (Value.int 1 _)) _ _ _); refine' row_mark ?N ?e ?_; (case N => k_asm); (case e => (repeat (first | assumption | apply List.mem_cons_of_mem)))) | ((with_reducible show wpAny _ _ (subscriptTail _ _ (Value.ref _) (Value.int 0 _)) _ _ _); refine' row_dots ?N ?e ?_; (case N => k_asm); (case e => (repeat (first | assumption | apply List.mem_cons_of_mem)))))))
local macro_rules | `(tactic| walk_at "last subscriptTail Name Constant ref int") => `(tactic| (k_here; k_dflt (first | ((with_reducible show wpAny _ _ (subscriptTail _ _ (Value.ref _) (Value.int 1 _)) _ _ _); refine' row_mark ?N ?e ?_; (case N => k_asm); (case e => (repeat (first | assumption | apply List.mem_cons_of_mem)))) | ((with_reducible show wpAny _ _ (subscriptTail _ _ (Value.ref _) (Value.int 0 _)) _ _ _); refine' row_dots ?N ?e ?_; (case N => k_asm); (case e => (repeat (first | assumption | apply List.mem_cons_of_mem)))))))
local macro_rules | `(tactic| walk_at "subscriptTail") => `(tactic| (k_here; (with_reducible show wpAny _ _ (subscriptTail (Expr.Name _ _) _ (Value.ref _) (Value.int _ _)) _ _ _); k_dflt (refine' lst_itemE ?N ?e ?z ?x ?f ?_; (case N => k_asm); (case e => (repeat first | exact List.mem_cons_self | apply List.mem_cons_of_mem)); (case z => assumption); (case x => assumption); (case f => assumption))))
local macro_rules | `(tactic| walk_at "compareOp Eq str str") => `(tactic| (k_here; first | (refine cmp_mark_eq (by assumption) ?_) | (refine cmp_mark_ne (by assumption) ?_)))
local macro_rules | `(tactic| walk_at "call builtin:list.append") => `(tactic| (k_here; k_dflt (refine' lst_app ?F ?N ?hj ?hr ?z ?_; (case F => k_asm); (case N => k_asm); (case hj => assumption); (case hr => assumption); (case z => assumption); intro h' F' N')))
local macro_rules | `(tactic| walk_at "subscriptTail Name Slice ref ref") => `(tactic| (k_here; (with_reducible rename Fr _ _ _ _ => F'); (with_reducible rename News _ _ _ _ => N'); k_dflt (refine' lst_slice (s := ⟨_, _, _, _, _⟩) F' N' ?e ?i ?j ?ab ?b ?z ?_; (case e => (repeat first | exact List.mem_cons_self | apply List.mem_cons_of_mem)); (case i => assumption); (case j => assumption); (case ab => assumption); (case b => assumption); (case z => assumption); intro D' h' F' N' l1; (try k_lt l1); (try k_sweep))))
local macro_rules | `(tactic| walk_at "exec Assign cons ListComp") => `(tactic| (k_here; k_dflt (refine LCg.Assign_ListComp_U (F₀ := by k_asm) (by rfl) (by with_unfolding_all rfl) (by with_unfolding_all rfl) (by decide) (by rfl) (by decide) (by rfl) (by rfl) (by rfl) ?_); k_dflt lcg_toSrc))
local macro_rules | `(tactic| walk_at "CompSrc") => `(tactic| (k_here; k_dflt (refine LCg.CompSrc.ledger (by rfl) (by k_asm) (by k_asm) (by exact List.mem_cons_self) ?z ?_; (case z => assumption); intro g'; refine Held.out ?_)))
local macro_rules | `(tactic| walk_at "call ref") => `(tactic| (k_here; k_dflt (refine' ct_use (need_ct' (by assumption) (by assumption) (by assumption) (by assumption) (by assumption)) ?k1 ?k2 ?k3 ?k4 ?k5 ?k6 ?k7 ?k8 ?k9 ?_); (case k1 => k_asm); (case k2 => k_asm); (case k3 => k_asm); (case k4 => k_asm); (case k5 => k_asm); (case k6 => (first | exact rfl | assumption)); (case k7 => (intro q hq; rw [List.mem_singleton.mp hq]; exact List.mem_cons_self)); (case k8 => ktr_room); (case k9 => ktr_units); intro v9 tl9 h9 tk9 F9 N9 ne9 hp9; (obtain ⟨e9, t9, e9'⟩ := hp9; subst e9 e9'); (try simp only [List.nil_append] at N9); clear ne9; (try dsimp only); (try k_fold)))
local macro_rules | `(tactic| walk_at "call type:range") => `(tactic| (k_here; (rename Fr _ _ _ _ => F'); (rename News _ _ _ _ => N'); first
  | (with_unfolding_all refine range1_rows F' N' ?_; intro _ _ _ _ _ hRg _ _ _)
  | (with_unfolding_all refine range2_rows F' N' ?_; intro _ _ _ _ _ hRg _ _ _)))
theorem in_end {h₀ : Heap} {L I : Addr} {it : Obj} {T : Led} {s₁ : Shared} {m₀ m' : Str → Option Value} {P : InS → Prop} {x y : Addr × Obj} {h' : Heap} {tk : Nat} {v : Int} {tv : Tok} (F : Fr h₀ L h' m') (N : News h₀ L h' (x :: y :: (I, it) :: T)) (hlt : ∀ p ∈ T, p.1 < I)
    (e1 : m' (Str.ofString "least") = some (.int v tv)) (hr : ∀ z, z ≠ Str.ofString "least" → z ≠ Str.ofString "first" → z ≠ Str.ofString "group" → m' z = m₀ z) (hp : P ⟨v, tv⟩) :
    LpEnd h₀ L s₁ I it (fun _ : InS => T) (fun c => [(Str.ofString "least", .int c.l c.t)]) [Str.ofString "first", Str.ofString "group"] m₀ P { s₁ with heap := h', toks := tk } :=
  lp_end ⟨v, tv⟩ F N (List.mem_cons_of_mem _ (List.mem_cons_of_mem _ List.mem_cons_self)) (fun p hp => List.mem_cons_of_mem _ (List.mem_cons_of_mem _ (List.mem_cons_of_mem _ hp))) (fun p hp => Nat.ne_of_lt (hlt p hp)) (by intro p hp; rw [List.mem_singleton.mp hp]; exact e1)
    (fun z h1 h2 => hr z (h1 _ (.head _)) (fun e => by rw [e] at h2; exact absurd h2 (by decide)) (fun e => by rw [e] at h2; exact absurd h2 (by decide))) hp
theorem mi_end {h₀ : Heap} {L I D : Addr} {it o : Obj} {T : Led} {s₁ : Shared} {m₀ m' : Str → Option Value} {P : MiS → Prop} {h' : Heap} {tk e : Nat} {lvs : List Value} {lns : List Int} {v : Int} {tv : Tok} (F : Fr h₀ L h' m') (N : News h₀ L h' ((I, it) :: (D, listOf (lvs.toArray.push (.int v tv)) (e + 1)) :: T)) (hlt : ∀ p ∈ (D, o) :: T, p.1 < I)
    (hr : ∀ z, z ≠ Str.ofString "last" → z ≠ Str.ofString "least" → z ≠ Str.ofString "first" → z ≠ Str.ofString "group" → m' z = m₀ z) (hp : P ⟨lvs ++ [.int v tv], lns, e + 1⟩) :
    LpEnd h₀ L s₁ I it (miL D T) (fun _ => []) [Str.ofString "last", Str.ofString "least", Str.ofString "first", Str.ofString "group"] m₀ P { s₁ with heap := h', toks := tk } := by
  rw [List.push_toArray] at N
  refine lp_end ⟨lvs ++ [.int v tv], lns, e + 1⟩ F N List.mem_cons_self (fun p hp => List.mem_cons_of_mem _ hp) (fun p hp => ?_) (List.forall_mem_nil _)
    (fun z _ h2 => hr z (fun e => by rw [e] at h2; exact absurd h2 (by decide)) (fun e => by rw [e] at h2; exact absurd h2 (by decide)) (fun e => by rw [e] at h2; exact absurd h2 (by decide)) (fun e => by rw [e] at h2; exact absurd h2 (by decide))) hp
  rcases List.mem_cons.mp hp with rfl | hp
  · exact Nat.ne_of_lt (hlt (D, o) List.mem_cons_self)
  · exact Nat.ne_of_lt (hlt p (List.mem_cons_of_mem _ hp))
theorem ou_end {h₀ : Heap} {L I D B R W : Addr} {it o : Obj} {vs ws : List Value} {n k : Nat} {T9 : Led} {s₁ : Shared} {m₀ m' : Str → Option Value} {P : OuS → Prop} {h' : Heap} {tk e : Nat} {lvs : List Value} {lns : List Int} {c0 : OuS} (F : Fr h₀ L h' m')
    (N : News h₀ L h' ((D, listOf lvs.toArray e) :: (I, it) :: (B, o) :: (R, listOf vs.toArray n) :: (W, listOf ws.toArray k) :: T9)) (hlt : ∀ p ∈ ouL R W vs ws n k T9 c0, p.1 < I) (hD : I ≠ D)
    (e1 : m' (Str.ofString "best") = some (.ref D)) (hr : ∀ z, z ≠ Str.ofString "best" → [Str.ofString "dots", Str.ofString "mark", Str.ofString "later", Str.ofString "last", Str.ofString "least", Str.ofString "first", Str.ofString "group"].contains z = false → m' z = m₀ z) (hp : P ⟨D, lvs, lns, e⟩) :
    LpEnd h₀ L s₁ I it (ouL R W vs ws n k T9) (fun c => [(Str.ofString "best", .ref c.B)]) [Str.ofString "dots", Str.ofString "mark", Str.ofString "later", Str.ofString "last", Str.ofString "least", Str.ofString "first", Str.ofString "group"] m₀ P { s₁ with heap := h', toks := tk } := by
  refine lp_end ⟨D, lvs, lns, e⟩ F N (List.mem_cons_of_mem _ List.mem_cons_self) (fun p hp => ?_) (fun p hp => ?_) (by intro p hp; rw [List.mem_singleton.mp hp]; exact e1) (fun z h1 h2 => hr z (h1 _ (.head _)) h2) hp
  · rcases List.mem_cons.mp hp with rfl | hp
    · exact List.mem_cons_self
    · exact List.mem_cons_of_mem _ (List.mem_cons_of_mem _ (List.mem_cons_of_mem _ hp))
  · rcases List.mem_cons.mp hp with rfl | hp
    · exact Ne.symm hD
    · exact Nat.ne_of_lt (hlt p (List.mem_cons_of_mem _ hp))
theorem step_is {rs : List (Nat × Nat)} {best : List Int} {d last i : Nat} {l x y : Int} (hl : l = (List.range i).foldl (stepMin rs best d last) 7) (hx : x = needF (dotsI (grp rs i last)) d) (hy : y = best.getD i 0) :
    (if (if x > y then x else y) < l then (if x > y then x else y) else l) = (List.range (i + 1)).foldl (stepMin rs best d last) 7 := by
  rw [List.range_succ, List.foldl_append, ← hl]
  subst hx hy
  show _ = min l (max (best.getD i 0) (needF (dotsI (grp rs i last)) d))
  have e1 : max (best.getD i 0) (needF (dotsI (grp rs i last)) d) = if needF (dotsI (grp rs i last)) d > best.getD i 0 then needF (dotsI (grp rs i last)) d else best.getD i 0 := by
    split <;> omega
  rw [e1]
  generalize (if needF (dotsI (grp rs i last)) d > best.getD i 0 then needF (dotsI (grp rs i last)) d else best.getD i 0) = z
  split <;> omega
theorem least_yes {rs : List (Nat × Nat)} {best : List Int} {d m i d2 m2 : Nat} {lns : List Int} {l : Int} (hln : lns = 7 :: (List.range i).map fun l => leastAt rs best d m (l + 1)) (hr : rs[i]? = some (d2, m2)) (hm : m2 = m) (hl : l = (List.range (i + 1)).foldl (stepMin rs best d (i + 1)) 7) :
    lns ++ [l] = 7 :: (List.range (i + 1)).map fun l => leastAt rs best d m (l + 1) := by
  rw [List.range_succ, List.map_append, hln]
  show 7 :: _ = 7 :: (_ ++ [leastAt rs best d m (i + 1)])
  congr 2
  unfold leastAt
  rw [Nat.add_sub_cancel, List.getD_eq_getElem?_getD, hr]
  show [l] = [if m2 = m then _ else _]
  rw [if_pos hm, hl]
theorem least_no {rs : List (Nat × Nat)} {best : List Int} {d m i d2 m2 : Nat} {lns : List Int} (hln : lns = 7 :: (List.range i).map fun l => leastAt rs best d m (l + 1)) (hr : rs[i]? = some (d2, m2)) (hm : m2 ≠ m) :
    lns ++ [7] = 7 :: (List.range (i + 1)).map fun l => leastAt rs best d m (l + 1) := by
  rw [List.range_succ, List.map_append, hln]
  show 7 :: _ = 7 :: (_ ++ [leastAt rs best d m (i + 1)])
  congr 2
  unfold leastAt
  rw [Nat.add_sub_cancel, List.getD_eq_getElem?_getD, hr]
  show _ = [if m2 = m then _ else _]
  rw [if_neg hm]
theorem best_snoc {rs wr : List (Nat × Nat)} {i d m : Nat} {bns lns : List Int} (hb : bns = bestAll rs (wr.take i)) (hr : wr[i]? = some (d, m)) (hl : lns = nextBest rs bns d m) : lns = bestAll rs (wr.take (i + 1)) := by
  rw [take_snocG hr]
  unfold bestAll at *
  rw [List.foldl_append, ← hb]
  exact hl
local macro_rules | `(tactic| walk_at "LpPost") => `(tactic| (dsimp only [LpPost]))
local macro_rules | `(tactic| walk_at "call builtin:len") => `(tactic| (k_here; (with_reducible show wpAny _ _ (call (Value.builtin _) [Value.ref _]) _ _ _); k_dflt (refine' lst_len ?N ?e ?k ?f ?_; (case N => k_asm); (case e => (repeat first | exact List.mem_cons_self | apply List.mem_cons_of_mem)); (case k => assumption); (case f => omega); intro _ _)))
local macro_rules | `(tactic| walk_at "exec For Tuple Name cons nil") => `(tactic| (k_here; (rename Fr _ _ _ _ => lF'); (with_unfolding_all refine' For_turns lF' ?_; k_whole)))
local macro_rules | `(tactic| walk_at "exec For Name Call cons nil") => `(tactic| (k_here; (rename Fr _ _ _ _ => lF'); (with_unfolding_all refine' For_invVF lF' ?k1 ?k2 ?_; (case k1 => exact rfl); (case k2 => exact rfl); k_whole)))
local macro_rules | `(tactic| walk_at "pyIter ref") => `(tactic| (refine Held.out ?_))
set_option maxHeartbeats 0 in
theorem least_ct (w : World) (R W : Addr) (vs ws : List Value) (n k : Nat) (T9 : Led) (rs wr : List (Nat × Nat)) (hv : RowsAre T9 vs rs) (hw : RowsAre T9 ws wr) (hl : rs.length = 5) (hlw : wr.length ≤ 8) (hdr : ∀ r ∈ rs, r.1 ≤ 50) (hdw : ∀ r ∈ wr, r.1 ≤ 50) :
    Ct w 215 [.ref R, .ref W] [] 4 60 ((R, listOf vs.toArray n) :: (W, listOf ws.toArray k) :: T9) (LeastPost rs wr) := by
  have hvl : vs.length = 5 := hv.length.trans hl
  refine' ct_intro (binds := [(Str.ofString "rows", .ref R), (Str.ofString "wanted", .ref W)]) ?ho ?hcd ?hb ?hl ?hc ?hco ?hg ?hk ?hdd ?body
  case ho => k_is
  case hcd => k_is
  case hb => exact fun s X => BindsTo.of_eq rfl
  case hl => exact rfl
  case hc => decide
  case hco => exact rfl
  case hg => exact rfl
  case hk => exact rfl
  case hdd => decide
  intro p loose mean mg mb dp un gd cn cs a ccd cl outer base g L L' s B F X N T hlt hd hu
  k_fold
  k_steps
  rename Fr _ _ _ _ => lF
  rename News _ _ _ _ => lN
  unfold Held
  obtain ⟨c0, lN0, hc1, hc2, hc3⟩ := ou_start lF lN (by with_unfolding_all rfl)
  clear lN
  with_unfolding_all refine' lp_turns (vs := ws) (n := k) (ouL R W vs ws n k T9) (fun c => [(Str.ofString "best", .ref c.B)]) [Str.ofString "dots", Str.ofString "mark", Str.ofString "later", Str.ofString "last", Str.ofString "least", Str.ofString "first", Str.ofString "group"] (fun i c => IntsAre c.bvs c.bns ∧ c.bns = bestAll rs (wr.take i) ∧ c.bns.length = 6) c0 rfl lF lN0 ?hm rfl ?kk ?kp ?turn ?done
  case hm => exact fun _ => List.mem_cons_of_mem _ (List.mem_cons_of_mem _ List.mem_cons_self)
  case kk => exact List.forall_mem_cons.mpr ⟨hc1, List.forall_mem_nil _⟩
  case kp => exact ⟨hc2, hc3.trans (by rw [List.take_zero]; unfold bestAll; rw [hl]; rfl), by rw [hc3]; rfl⟩
  case turn =>
    clear lF lN0
    rintro ⟨B, bvs, bns, e⟩ i v u it I h tk hvi ⟨hb, hbn, hbl⟩ hI hit lF lN
    obtain ⟨a, d, m, t1, t2, rfl, hm, hr⟩ := hw.get (by simpa using hvi)
    dsimp only [ouL] at hb hbn hbl lF lN
    have hT : IsTup h a #[.int (d : Int) t1, .str ⟨#[m]⟩ t2] := News.isTup lN (List.mem_cons_of_mem _ (List.mem_cons_of_mem _ (List.mem_cons_of_mem _ (List.mem_cons_of_mem _ hm))))
    show wpAny _ _ _ _ _ _
    k_fold
    k_steps
    rename Fr _ _ _ _ => lF
    rename News _ _ _ _ => lN
    rename IsRange _ _ _ _ _ _ _ _ => lR
    unfold Held
    obtain ⟨c1, lN1, hc4, hc5, hDT⟩ := mi_start lF lN (by assumption)
    clear lN
    with_unfolding_all refine' lp_range (n := 5) (miL _ _) (fun _ => []) [Str.ofString "last", Str.ofString "least", Str.ofString "first", Str.ofString "group"] (fun i c => IntsAre c.lvs c.lns ∧ c.lns = 7 :: (List.range i).map fun l => leastAt rs bns d m (l + 1)) c1 rfl lR ?sm ?sz lF lN1 ?kk2 ?kp2 ?turn2 ?done2
    case sm => exact small_1 (by decide) (by decide) (by decide) (by decide)
    case sz => exact size_one (by decide)
    case kk2 => exact List.forall_mem_nil _
    case kp2 => exact ⟨hc4, hc5⟩
    case turn2 =>
      clear lF lN1 lR
      rintro ⟨lvs, lns, e2⟩ i2 t5 u2 I2 h2 tk2 hi2 ⟨hlv, hln⟩ hI2 lF lN
      dsimp only [ouL, miL] at hlv hln lF lN
      show wpAny _ _ _ _ _ _
      k_fold
      obtain ⟨a2, hva⟩ : ∃ a, vs[i2]? = some a := ⟨_, List.getElem?_eq_getElem (by omega)⟩
      obtain ⟨a2, d2, m2, t3, t4, rfl, hm2, hr2⟩ := hv.get hva
      have hx2 : (1 + (i2 : Int) - 1) = (i2 : Int) := by omega
      have hvl9 : vs.length ≤ 1000 := by omega
      have hlvl : lvs.length = i2 + 1 := by rw [hlv.length, hln]; simp
      have hz9 : lvs.toArray.size ≤ 1000 := by rw [List.size_toArray]; omega
      have hjD := Nat.ne_of_gt (hI2 _ List.mem_cons_self)
      by_cases hmm : m2 = m
      · k_steps
        rename Fr _ _ _ _ => lF
        rename News _ _ _ _ => lN
        rename IsRange _ _ _ _ _ _ _ _ => lR
        unfold Held
        with_unfolding_all refine' lp_range (n := i2 + 1) (fun _ : InS => _) (fun c => [(Str.ofString "least", .int c.l c.t)]) [Str.ofString "first", Str.ofString "group"] (fun i c => c.l = (List.range i).foldl (stepMin rs bns d (i2 + 1)) 7) ⟨7, _⟩ rfl lR ?sm ?sz lF lN ?kk3 ?kp3 ?turn3 ?done3
        case sm => exact small_1 (by decide) (by decide) (by omega) (by omega)
        case sz => exact size_one (by omega)
        case kk3 => exact List.forall_mem_cons.mpr ⟨by with_unfolding_all rfl, List.forall_mem_nil _⟩
        case kp3 => rfl
        case turn3 =>
          clear lF lN lR
          rintro ⟨l, tl⟩ i3 t6 u3 I3 h3 tk3 hi3 hlq hI3 lF lN
          dsimp only at hlq lF lN
          have hsi : (0 : Int) + (i3 : Int) = (i3 : Int) := Int.zero_add _
          have hsj : (1 : Int) + (i2 : Int) = ((i2 + 1 : Nat) : Int) := by omega
          have hsab : i3 ≤ i2 + 1 := by omega
          have hsb : i2 + 1 ≤ vs.length := by omega
          have hzr := (hv.drop i3).take (i2 + 1 - i3)
          have hszz : ((vs.drop i3).take (i2 + 1 - i3)).toArray.size ≤ sizeLine := by rw [List.size_toArray, List.length_take, sizeLine_eq]; omega
          have hgl : (grp rs i3 (i2 + 1)).length ≤ 8 := by unfold grp; rw [List.length_take, List.length_drop]; omega
          have hgd : (dotsI (grp rs i3 (i2 + 1))).length ≤ 8 := by unfold dotsI; rw [List.length_map]; exact hgl
          have hgb := dotsI_ok (rs := grp rs i3 (i2 + 1)) fun r hr => hdr r (grp_mem hr)
          have hd0 : (0 : Int) ≤ (d : Int) := Int.natCast_nonneg _
          have hd1 : (d : Int) ≤ 100 := by have := hdw (d, m) (List.mem_of_getElem? hr); dsimp only at this; omega
          obtain ⟨tb, hbx⟩ := hb.get i3 (bns.getD i3 0) (by rw [List.getD_eq_getElem?_getD, List.getElem?_eq_getElem (by omega)]; rfl)
          have hbvl : bvs.length ≤ 1000 := by rw [hb.length, hbl]; decide
          show wpAny _ _ _ _ _ _
          k_fold
          k_steps
          rename Fr _ _ _ _ => lF
          rename News _ _ _ _ => lN
          unfold Held
          refine comp_inv (fun i ys => IntsAre ys (dotsI ((grp rs i3 (i2 + 1)).take i))) .nil (fun ys e9 => ?fin) ?turn
          case turn =>
            clear lF lN
            rintro i4 ys v I oI C oC D m₂ h tk E' hi hys hP hns hx lF lN off ne
            obtain ⟨a5, d5, m5, t7, t8, rfl, hm5, hr5⟩ := hzr.get (by simpa using hP)
            k_steps
            rename Fr _ _ _ _ => F'
            rename News _ _ _ _ => N'
            refine comp_same F' N' off (src_here (List.mem_cons_self)) ?_
            exact ⟨rfl, ls_take hys hr5⟩
          case fin =>
            clear lF lN
            rw [List.size_toArray, hzr.length, show List.take (i2 + 1 - i3) (List.drop i3 rs) = grp rs i3 (i2 + 1) from rfl, List.take_length] at e9
            k_steps
            rename Fr _ _ _ _ => F'
            rename News _ _ _ _ => N'
            with_unfolding_all refine in_end F' N' hI3 rfl ?_ (step_is hlq rfl rfl)
            intro z h1 e1 e2
            simp only [kstB, h1, e1, e2, if_false, List.contains_cons, List.contains_nil, beq_eq_false_iff_ne.mpr e1, beq_eq_false_iff_ne.mpr e2, Bool.or_false, Bool.false_eq_true]
        case done3 =>
          clear lF lN lR
          rintro ⟨l, tl⟩ u3 h3 tk3 hlq lF lN
          dsimp only at hlq lF lN
          k_steps
          rename Fr _ _ _ _ => F'
          rename News _ _ _ _ => N'
          with_unfolding_all refine mi_end F' N' hI2 ?_ ⟨ints_snocG hlv, least_yes hln hr2 hmm hlq⟩
          intro z h1 h2 e1 e2
          simp only [kstB, h1, h2, e1, e2, if_false, List.contains_cons, List.contains_nil, beq_eq_false_iff_ne.mpr e1, beq_eq_false_iff_ne.mpr h1, beq_eq_false_iff_ne.mpr h2, beq_eq_false_iff_ne.mpr e2, Bool.or_false, Bool.false_eq_true]
      · k_steps
        rename Fr _ _ _ _ => F'
        rename News _ _ _ _ => N'
        with_unfolding_all refine mi_end F' N' hI2 ?_ ⟨ints_snocG hlv, least_no hln hr2 hmm⟩
        intro z h1 h2 e1 e2
        simp only [kstB, h1, h2, e1, e2, if_false, List.contains_cons, List.contains_nil, beq_eq_false_iff_ne.mpr e1, beq_eq_false_iff_ne.mpr h1, beq_eq_false_iff_ne.mpr h2, beq_eq_false_iff_ne.mpr e2, Bool.or_false, Bool.false_eq_true]
    case done2 =>
      clear lF lN1 lR
      rintro ⟨lvs, lns, e2⟩ u2 h2 tk2 ⟨hlv, hln⟩ lF lN
      dsimp only [ouL, miL] at hlv hln lF lN
      k_steps
      rename Fr _ _ _ _ => F'
      rename News _ _ _ _ => N'
      have hln2 : lns = nextBest rs bns d m := by rw [hln]; unfold nextBest; rw [hl]
      with_unfolding_all refine ou_end F' N' hI (hDT _ List.mem_cons_self) rfl ?_ ⟨hlv, best_snoc hbn hr hln2, by rw [hln2, next_len, hl]⟩
      intro z h1 h2
      simp only [List.contains_cons, List.contains_nil, Bool.or_false, Bool.or_eq_false_iff, beq_eq_false_iff_ne] at h2
      obtain ⟨g1, g2, g3, g4, g5, g6, g7⟩ := h2
      simp only [kstB, h1, g1, g2, g3, g4, g5, g6, g7, if_false, List.contains_cons, List.contains_nil, beq_eq_false_iff_ne.mpr g1, beq_eq_false_iff_ne.mpr g2, beq_eq_false_iff_ne.mpr g3, beq_eq_false_iff_ne.mpr g4, beq_eq_false_iff_ne.mpr g5, beq_eq_false_iff_ne.mpr g6, beq_eq_false_iff_ne.mpr g7, Bool.or_false, Bool.false_eq_true]
  case done =>
    clear lF lN0
    rintro ⟨B, bvs, bns, e⟩ u h tk ⟨hb, hbn, hbl⟩ lF lN
    rw [hw.length, List.take_length] at hbn
    dsimp only [ouL] at hb hbn hbl lF lN
    k_steps
    rename Fr _ _ _ _ => F'
    rename News _ _ _ _ => N'
    rename _ ∈ bns => g1
    rename ∀ a ∈ bns, _ => g2
    rw [hbn] at g1 g2
    with_unfolding_all exact fin_nil F' N' (fun q hq => List.mem_cons_of_mem _ hq) ⟨rfl, _, _, rfl, g1, g2⟩
end Mine
end PartLs
section PartLg
open PySem PySem.Spec PySem.W PyProof.Rows PySem.Calls
set_option Elab.async false
set_option maxRecDepth 100000
namespace Mine
theorem fill_Lg (w : World) : (fun (_ : Program) (_ : Frag) => True) PySem.Challenge.rw_kq0062_01.row.prog (hd.heap_1 w.params) := by
  k_fill
  trivial
theorem RowsAre.mono {T T' : Led} {vs : List Value} {rs : List (Nat × Nat)} (h : RowsAre T vs rs) (hs : ∀ p ∈ T, p ∈ T') : RowsAre T' vs rs := by
  induction h with
  | nil => exact .nil
  | cons hm _ ih => exact .cons (hs _ hm) ih
theorem RowsAre.snoc {T : Led} {vs : List Value} {rs : List (Nat × Nat)} {a : Addr} {d m : Nat} {t1 t2 : Tok} (h : RowsAre T vs rs) (hm : (a, rowObj d m t1 t2) ∈ T) : RowsAre T (vs ++ [.ref a]) (rs ++ [(d, m)]) := by
  induction h with
  | nil => exact .cons hm .nil
  | cons hm' _ ih => exact .cons hm' ih
noncomputable def rowOf (m c : Int) : Nat × Nat := (dotsF c m, markF c m)
structure CellOk (n : Int) : Prop where
  lo : 0 ≤ n
  hi : n < 1000000
theorem row_ct' {w : World} {c m : Int} {t u : Tok} (h : CellOk c) (hm0 : 1 ≤ m) (hm1 : m ≤ 7) : Ct w 181 [.int c t, .int m u] [] 3 40 [] (RowPost (dotsF c m) (markF c m)) := row_ct w c m t u h.lo h.hi hm0 hm1
theorem row_ct4 {w : World} {c : Int} {t u : Tok} (h : CellOk c) : Ct w 181 [.int c t, .int 4 u] [] 3 40 [] (RowPost (dotsF c 4) (markF c 4)) := row_ct' h (by decide) (by decide)
theorem row_ct7 {w : World} {c : Int} {t u : Tok} (h : CellOk c) : Ct w 181 [.int c t, .int 7 u] [] 3 40 [] (RowPost (dotsF c 7) (markF c 7)) := row_ct' h (by decide) (by decide)
section
open PyProof.Rows.LCg PyProof.Rows.LCt
variable {prog : Program} {w : World} {A : Around} {h₀ : Heap} {L : Addr} {m : Str → Option Value} {env : Env} {s : Shared}
/-- a comprehension whose elements are made: the ledger grows ahead -/
theorem comp_grow {elt : Expr} {x : Str} {scope : Scope} {cl : List (Str × Addr)} {S : Led → Prop} {P : Nat → Value → Prop} {Fin : List Value → Led → Prop} {n : Nat} {news : Led} (Inv : Nat → List Value → Led → Prop) (h0 : Inv 0 [] []) (fin : ∀ ys add, Inv n ys add → Fin ys (add ++ news))
    (turn : ∀ i ys add v I oI C oC D m₂ h tk (E' : Value → Shared → Prop), i < n → Inv i ys add → P i v → NsObj oC m₂ → m₂ x = some v → Fr h₀ L h m → News h₀ L h ((I, oI) :: (C, oC) :: (D, lst ys) :: (add ++ news)) → Off3 I C D (add ++ news) → ((@Ne Nat I C) ∧ (@Ne Nat I D) ∧ (@Ne Nat C D)) →
      wpAny (model prog w) A (eval elt (compEnvC scope cl C env)) (CompEnd h₀ L m { s with heap := h, toks := tk } I oI C oC D (lst ys) S (fun y news' => ∃ add', news' = add' ++ news ∧ Inv (i + 1) (ys ++ [y]) add')) E' { s with heap := h, toks := tk }) :
    CompRest prog w A h₀ L m env elt x scope cl s S P Fin n 0 [] news := by
  have go : ∀ k i ys add, i + k = n → Inv i ys add → CompRest prog w A h₀ L m env elt x scope cl s S P Fin k i ys (add ++ news) := by
    intro k
    induction k with
    | zero => intro i ys add e hI; exact CompRest.zero (fin ys add ((show i = n by omega) ▸ hI))
    | succ k ih =>
      intro i ys add e hI
      refine CompRest.succ fun v I oI C oC D m₂ h tk E' hP hns hx F N off ne => ?_
      refine wpAny_mono (turn i ys add v I oI C oC D m₂ h tk E' (by omega) hI hP hns hx F N off ne) (fun y s' hc => compEnd_mono (fun y n' hy => ?_) hc) fun _ _ e => e
      obtain ⟨add', rfl, hI'⟩ := hy
      exact ih (i + 1) _ _ (by omega) hI'
  exact go n 0 [] [] (by omega) h0
theorem off3_of {I C D : Addr} : ∀ {l : Led}, (∀ p ∈ l, p.1 ≠ I ∧ p.1 ≠ C ∧ p.1 ≠ D) → Off3 I C D l
  | [], _ => trivial
  | _ :: _, h => ⟨h _ List.mem_cons_self, off3_of fun p hp => h p (List.mem_cons_of_mem _ hp)⟩
noncomputable def RowInv (m : Int) (ms : List Int) (i : Nat) (ys : List Value) (add : Led) : Prop := RowsAre add ys ((ms.take i).map (rowOf m))
theorem rows_turn {I C D T : Addr} {oI oC : Obj} {s₁ : Shared} {S : Led → Prop} {news add : Led} {ys : List Value} {h' : Heap} {tk : Nat} {ms : List Int} {c k : Int} {i : Nat} {t1 t2 : Tok} (F : Fr h₀ L h' m)
    (N : News h₀ L h' ([(T, rowObj (dotsF c k) (markF c k) t1 t2)] ++ ((I, oI) :: (C, oC) :: (D, lst ys) :: (add ++ news)))) (ne : ∀ q ∈ (I, oI) :: (C, oC) :: (D, lst ys) :: (add ++ news), ∀ p ∈ [(T, rowObj (dotsF c k) (markF c k) t1 t2)], q.1 ≠ p.1)
    (off : Off3 I C D (add ++ news)) (hS : ∀ l, S (l ++ news)) (hI : RowInv k ms i ys add) (hc : ms[i]? = some c) :
    CompEnd h₀ L m s₁ I oI C oC D (lst ys) S (fun y news' => ∃ add', news' = add' ++ news ∧ RowInv k ms (i + 1) (ys ++ [y]) add') (.ref T) { s₁ with heap := h', toks := tk } := by
  refine CompEnd.intro F N ((T, rowObj (dotsF c k) (markF c k) t1 t2) :: (add ++ news)) (fun p hp => ?_) (off3_of fun p hp => ?_) (hS (_ :: add)) ⟨_ :: add, rfl, ?_⟩
  · show p ∈ (T, rowObj (dotsF c k) (markF c k) t1 t2) :: ((I, oI) :: (C, oC) :: (D, lst ys) :: (add ++ news))
    simp only [List.mem_cons] at hp ⊢
    rcases hp with h | h | h | h | h
    · exact .inr (.inl h)
    · exact .inr (.inr (.inl h))
    · exact .inr (.inr (.inr (.inl h)))
    · exact .inl h
    · exact .inr (.inr (.inr (.inr h)))
  · rcases List.mem_cons.mp hp with rfl | hp
    · exact ⟨(ne (I, oI) List.mem_cons_self _ List.mem_cons_self).symm, (ne (C, oC) (List.mem_cons_of_mem _ List.mem_cons_self) _ List.mem_cons_self).symm, (ne (D, lst ys) (List.mem_cons_of_mem _ (List.mem_cons_of_mem _ List.mem_cons_self)) _ List.mem_cons_self).symm⟩
    · exact off.mem p hp
  · unfold RowInv
    rw [take_snocG hc, List.map_append]
    exact RowsAre.snoc (RowsAre.mono hI fun p hp => List.mem_cons_of_mem _ hp) List.mem_cons_self
end
section
variable {prog : Program} {w : World} {A : Around} {E : Value → Shared → Prop} {s : Shared} {h₀ : Heap} {L : Addr} {m : Str → Option Value} {news : Led} {value slice : Expr} {D : Addr} {vs : List Value} {n : Nat} {u : Tok} {Q : Value → Shared → Prop}
theorem upto8 (F : Fr h₀ L s.heap m) (N : News h₀ L s.heap news) (hm : (D, listOf vs.toArray n) ∈ news) (hb : 8 ≤ vs.length) (hz : vs.length ≤ 1000)
    (h : ∀ D' h', Fr h₀ L h' m → News h₀ L h' ((D', listOf (vs.take 8).toArray 0) :: news) → (∀ p ∈ news, p.1 < D') → Q (.ref D') { s with heap := h' })
    (hs : subscripted slice false (.ref D) (.ref s.heap.objs.size) = operate [.ref s.heap.objs.size, .ref D] (getItem (.ref D) (.ref s.heap.objs.size)) := by with_unfolding_all rfl) :
    wpAny (model prog w) A (subscriptTail value slice (.ref D) (.ref s.heap.objs.size)) Q E { s with heap := s.heap.push { cls := .type "slice", data := .fields #[.none, .int 8 u, .none] } } := by
  have hl : s.heap.IsList D vs.toArray := ⟨_, (N _ hm).1, rfl, _, rfl⟩
  refine tail_any (Heap.IsList.typeIs (s := { s with heap := s.heap.push { cls := .type "slice", data := .fields #[.none, .int 8 u, .none] } }) (hl.push _)) list_getitem_lookup
    (wpAny_getItem_list_slice (hl.push _) (Heap.IsSliceOf.new ..) .none (.int _ _) .none (by simp) ?_ (by rw [List.size_toArray, sizeLine_eq]; omega)) hs
  have N1 := News.push (F.push { cls := .type "slice", data := .fields #[.none, .int 8 u, .none] }) (N.grown fun _ _ e => Heap.get?_push_of_some _ e) { cls := .type "list", data := .seq (vs.take 8).toArray }
  rw [show (8 : Int) = ((8 : Nat) : Int) from rfl, slicePick_upto _ _ (by simpa using hb)]
  exact h _ _ ((F.push _).push _) N1 fun p hp => by rw [Heap.size_push]; exact Nat.lt_succ_of_lt (Heap.lt_size (N p hp).1)
theorem upto5 (F : Fr h₀ L s.heap m) (N : News h₀ L s.heap news) (hm : (D, listOf vs.toArray n) ∈ news) (hb : 5 ≤ vs.length) (hz : vs.length ≤ 1000)
    (h : ∀ D' h', Fr h₀ L h' m → News h₀ L h' ((D', listOf (vs.take 5).toArray 0) :: news) → (∀ p ∈ news, p.1 < D') → Q (.ref D') { s with heap := h' })
    (hs : subscripted slice false (.ref D) (.ref s.heap.objs.size) = operate [.ref s.heap.objs.size, .ref D] (getItem (.ref D) (.ref s.heap.objs.size)) := by with_unfolding_all rfl) (ht : ∀ r, letTemporaryGo value (.ref D) r = pure () := by intro _; with_unfolding_all rfl) :
    wpAny (model prog w) A (subscriptTail value slice (.ref D) (.ref s.heap.objs.size)) Q E { s with heap := s.heap.push { cls := .type "slice", data := .fields #[.none, .int 5 u, .none] } } :=
  kmk_slice_lit F N ⟨_, (N _ hm).1, rfl, _, rfl⟩ .none (.int _ _) (by rw [show (5 : Int) = ((5 : Nat) : Int) from rfl, slicePick_upto _ _ (by simpa using hb)]) h hs ht (by rw [List.size_toArray, sizeLine_eq]; omega)
theorem from5 (F : Fr h₀ L s.heap m) (N : News h₀ L s.heap news) (hm : (D, listOf vs.toArray n) ∈ news) (hb : 5 ≤ vs.length) (hz : vs.length ≤ 1000)
    (h : ∀ D' h', Fr h₀ L h' m → News h₀ L h' ((D', listOf (vs.drop 5).toArray 0) :: news) → (∀ p ∈ news, p.1 < D') → Q (.ref D') { s with heap := h' })
    (hs : subscripted slice false (.ref D) (.ref s.heap.objs.size) = operate [.ref s.heap.objs.size, .ref D] (getItem (.ref D) (.ref s.heap.objs.size)) := by with_unfolding_all rfl) (ht : ∀ r, letTemporaryGo value (.ref D) r = pure () := by intro _; with_unfolding_all rfl) :
    wpAny (model prog w) A (subscriptTail value slice (.ref D) (.ref s.heap.objs.size)) Q E { s with heap := s.heap.push { cls := .type "slice", data := .fields #[.int 5 u, .none, .none] } } :=
  kmk_slice_lit F N ⟨_, (N _ hm).1, rfl, _, rfl⟩ (.int _ _) .none (by rw [show (5 : Int) = ((5 : Nat) : Int) from rfl, slicePick_from _ _ (by simpa using hb)]) h hs ht (by rw [List.size_toArray, sizeLine_eq]; omega)
end
theorem cells_of {ws : List Value} {ms : List Int} (h : IntsAre ws (ms ++ [1, 6, 0, 9, 3, 6, 17, 5])) (hb : ∀ k ∈ ms, 0 ≤ k ∧ k < 1000000) : 8 ≤ ws.length ∧ ∃ cs, IntsAre (ws.take 8) cs ∧ cs.length = 8 ∧ ∀ n ∈ cs, CellOk n := by
  have hl := h.length
  rw [List.length_append] at hl
  have hl' : ws.length = ms.length + 8 := hl
  refine ⟨by omega, (ms ++ [1, 6, 0, 9, 3, 6, 17, 5]).take 8, h.take 8, ?_, fun n hn => ?_⟩
  · rw [List.length_take, List.length_append]
    show min 8 (ms.length + 8) = 8
    omega
  · rcases List.mem_append.mp (List.mem_of_mem_take hn) with hm | hm
    · exact ⟨(hb n hm).1, (hb n hm).2⟩
    · have : ∀ k ∈ ([1, 6, 0, 9, 3, 6, 17, 5] : List Int), 0 ≤ k ∧ k < 1000000 := by decide
      exact ⟨(this n hm).1, (this n hm).2⟩
/-- the five rows and the three wanted -/
noncomputable def rowsOf (cs : List Int) : List (Nat × Nat) := (cs.take 5).map (rowOf 4)
noncomputable def wantOf (cs : List Int) : List (Nat × Nat) := (cs.drop 5).map (rowOf 7)
theorem tidy1 {g h : Heap} {L R S D Z : Addr} {oS o oZ : Obj} {ys : List Value} {add : Led} (N : News g L h ((R, LCg.lst ys) :: (add ++ [(S, oS), (D, o), (Z, oZ)]))) : News g L h ((R, listOf ys.toArray ys.length) :: (D, o) :: (Z, oZ) :: add) := fun p hp => N p (by
  simp only [List.mem_cons, List.mem_append, List.not_mem_nil, or_false] at hp ⊢
  rcases hp with h | h | h | h
  · exact .inl h
  · exact .inr (.inr (.inr (.inl h)))
  · exact .inr (.inr (.inr (.inr h)))
  · exact .inr (.inl h))
theorem tidy2 {g h : Heap} {L R W S D Z : Addr} {oS o oR oZ : Obj} {ys : List Value} {add add2 : Led} (N : News g L h ((W, LCg.lst ys) :: (add2 ++ (S, oS) :: (R, oR) :: (D, o) :: (Z, oZ) :: add))) : News g L h ((R, oR) :: (W, listOf ys.toArray ys.length) :: (Z, oZ) :: (add ++ add2)) := fun p hp => N p (by
  simp only [List.mem_cons, List.mem_append, List.not_mem_nil, or_false] at hp ⊢
  rcases hp with h | h | h | h | h
  · exact .inr (.inr (.inr (.inl h)))
  · exact .inl h
  · exact .inr (.inr (.inr (.inr (.inr (.inl h)))))
  · exact .inr (.inr (.inr (.inr (.inr (.inr h)))))
  · exact .inr (.inl h))
theorem inv_all {m : Int} {cs : List Int} {n : Nat} {ys : List Value} {add : Led} (h : RowInv m cs n ys add) (hn : cs.length ≤ n) : RowsAre add ys (cs.map (rowOf m)) := by
  unfold RowInv at h
  rwa [List.take_of_length_le hn] at h
end Mine
end PartLg
section PartLh
open PySem PySem.Spec PySem.W PyProof.Rows PySem.Calls
set_option Elab.async false
set_option maxRecDepth 100000
namespace Mine
theorem fill_Lh (w : World) : (fun (_ : Program) (_ : Frag) => True) PySem.Challenge.rw_kq0062_01.row.prog (hd.heap_1 w.params) := by
  k_fill
  trivial
structure RowsOk (R : Addr) (T9 : Led) (vs : List Value) (n : Nat) (rs : List (Nat × Nat)) : Prop where
  are : RowsAre T9 vs rs
  few : rs.length ≤ 8
  dots : ∀ r ∈ rs, r.1 ≤ 50
theorem word_ctI {w : World} {R : Addr} {vs : List Value} {n : Nat} {T9 : Led} {rs : List (Nat × Nat)} (h : RowsOk R T9 vs n rs) : Ct w 186 [.ref R] [] 3 40 ((R, listOf vs.toArray n) :: T9) (fun tl v => tl = [] ∧ ∃ t, v = .str (wordS rs) t) := word_ct w R vs n T9 rs h.are h.few h.dots
theorem least_ctI {w : World} {R W : Addr} {vs ws : List Value} {n k : Nat} {T9 : Led} {rs wr : List (Nat × Nat)} (h : RowsOk R T9 vs n rs) (hw : RowsOk W T9 ws k wr) (hl : rs.length = 5) :
    Ct w 215 [.ref R, .ref W] [] 4 60 ((R, listOf vs.toArray n) :: (W, listOf ws.toArray k) :: T9) (LeastPost rs wr) := least_ct w R W vs ws n k T9 rs wr h.are hw.are hl hw.few h.dots hw.dots
theorem tra_ctI {w : World} {x : Str} {sg : List Nat} {t : Tok} (hx : x = patOf sg) (hs : ∀ c ∈ sg, okc c) (hl : sg.length ≤ 100) : Ct w 148 [.str x t] [] 6 60 [] (fun tl v => tl = [] ∧ ∃ t, v = .str (trText sg) t) := by
  subst hx; exact tra_ct w sg t hs hl
theorem pcs_ctI {w : World} {sg : List Nat} {t : Tok} (hs : ∀ c ∈ sg, okc c) (hl : sg.length ≤ 100) : Ct w 198 [.str (trText sg) t] [] 3 40 [] (fun tl v => ∃ R vs n, v = .ref R ∧ tl = [(R, listOf vs.toArray n)] ∧ StrsAre vs (sg.map fun c => ⟨#[c]⟩)) := pcs_ct w sg t hs hl
structure PcsOk (R : Addr) (vs : List Value) (n : Nat) (sg : List Nat) : Prop where
  are : StrsAre vs (sg.map fun c => ⟨#[c]⟩)
  few : sg.length ≤ 100
theorem tk_ctI {w : World} {R : Addr} {vs : List Value} {n : Nat} {sg : List Nat} {x : Str} {t : Tok} (h : PcsOk R vs n sg) (hx : x.length ≤ 100000) : Ct w 205 [.ref R, .str x t] [] 3 40 [(R, listOf vs.toArray n)] (fun tl v => tl = [] ∧ v = .bool (subG sg x.cps.toList)) := tk_ct w sg R vs n x t h.are h.few hx
theorem tk_ctB {w : World} {R : Addr} {vs : List Value} {n : Nat} {sg : List Nat} {x : Str} {t : Tok} {b : Bool} (h : PcsOk R vs n sg) (hx : x.length ≤ 100000) (hb : subG sg x.cps.toList = b) : Ct w 205 [.ref R, .str x t] [] 3 40 [(R, listOf vs.toArray n)] (fun tl v => tl = [] ∧ v = .bool b) := by
  subst hb; exact tk_ctI h hx
theorem sent_ctI {w : World} {x : Str} {t : Tok} (hok : SentOk x) : Ct w 193 [.str x t] [] 7 60 [] (fun tl v => tl = [] ∧ ∃ t, v = .str (sentW x) t) := sent_ct w x t hok
/-- what the law builds -/
structure LawIn (rs wr : List (Nat × Nat)) : Prop where
  five : rs.length = 5
  three : wr.length = 3
  rd : ∀ r ∈ rs, r.1 ≤ 3
  wd : ∀ r ∈ wr, r.1 ≤ 6
  rm : ∀ r ∈ rs, okm r.2 = true
  wm : ∀ r ∈ wr, okm r.2 = true
theorem law_in {cs : List Int} (h : cs.length = 8) : LawIn ((cs.take 5).map (rowOf 4)) ((cs.drop 5).map (rowOf 7)) := by
  refine ⟨by rw [List.length_map, List.length_take, h]; rfl, by rw [List.length_map, List.length_drop, h], ?_, ?_, ?_, ?_⟩
  · intro r hr
    obtain ⟨c, _, rfl⟩ := List.mem_map.mp hr
    have := dots_lt c 4 (by decide)
    show dotsF c 4 ≤ 3
    omega
  · intro r hr
    obtain ⟨c, _, rfl⟩ := List.mem_map.mp hr
    have := dots_lt c 7 (by decide)
    show dotsF c 7 ≤ 6
    omega
  · intro r hr
    obtain ⟨c, _, rfl⟩ := List.mem_map.mp hr
    exact mark_ok c 4
  · intro r hr
    obtain ⟨c, _, rfl⟩ := List.mem_map.mp hr
    exact mark_ok c 7
noncomputable def rowsAt (k : Nat) (rs : List (Nat × Nat)) : List (Nat × Nat) := rs.map fun r => (if r.1 = 0 then 0 else r.1 + k, r.2)
theorem rowsAt_zero (rs : List (Nat × Nat)) : rowsAt 0 rs = rs := by
  unfold rowsAt
  conv => rhs; rw [← List.map_id rs]
  refine List.map_congr_left fun r _ => ?_
  show (if r.1 = 0 then 0 else r.1 + 0, r.2) = r
  split
  · rename_i h; rw [← h]
  · rfl
theorem rowsAt_len (k : Nat) (rs : List (Nat × Nat)) : (rowsAt k rs).length = rs.length := List.length_map _
noncomputable def bump (r : Nat × Nat) : Nat × Nat := (if r.1 = 0 then 0 else r.1 + 1, r.2)
theorem rowsAt_succ (k : Nat) (rs : List (Nat × Nat)) : rowsAt (k + 1) rs = (rowsAt k rs).map bump := by
  unfold rowsAt
  rw [List.map_map]
  refine List.map_congr_left fun r _ => ?_
  show (if r.1 = 0 then 0 else r.1 + (k + 1), r.2) = bump (if r.1 = 0 then 0 else r.1 + k, r.2)
  unfold bump
  by_cases h : r.1 = 0
  · simp [h]
  · have h2 : ¬ (r.1 + k = 0) := by omega
    simp [h, h2]
    omega
theorem dots_false (n : Nat) (c : Nat) (r : List Nat) (hc : c ≠ 10) : dots false (List.replicate n 46 ++ c :: 10 :: r) = List.replicate n 46 ++ c :: 10 :: dots true r := by
  induction n with
  | zero =>
    show c :: dots (c == 10) (10 :: r) = c :: 10 :: dots true r
    rw [beq_eq_false_iff_ne.mpr hc]
    rfl
  | succ n ih =>
    show 46 :: dots false (List.replicate n 46 ++ c :: 10 :: r) = 46 :: (List.replicate n 46 ++ c :: 10 :: dots true r)
    rw [ih]
theorem dots_row (d c : Nat) (r : List Nat) (hc : c ≠ 10) (hc2 : c ≠ 46) : dots true (rowSigns (d, c) ++ r) = rowSigns (bump (d, c)) ++ dots true r := by
  unfold rowSigns bump
  cases d with
  | zero =>
    show (if (true && c == 46) = true then 46 :: 46 :: dots false (10 :: r) else c :: dots (c == 10) (10 :: r)) = _
    rw [beq_eq_false_iff_ne.mpr hc2, beq_eq_false_iff_ne.mpr hc]
    rfl
  | succ d =>
    have e1 : dots true ((List.replicate (d + 1) 46 ++ [c, 10]) ++ r) = 46 :: 46 :: dots false ((List.replicate d 46 ++ [c, 10]) ++ r) := rfl
    have e2 : (List.replicate d 46 ++ [c, 10]) ++ r = List.replicate d 46 ++ c :: 10 :: r := by rw [List.append_assoc]; rfl
    have e3 : List.replicate (if d + 1 = 0 then 0 else d + 1 + 1) 46 ++ [c, 10] ++ dots true r = 46 :: 46 :: (List.replicate d 46 ++ c :: 10 :: dots true r) := by
      rw [if_neg (by simp), List.append_assoc]
      rfl
    show dots true ((List.replicate (d + 1) 46 ++ [c, 10]) ++ r) = List.replicate (if d + 1 = 0 then 0 else d + 1 + 1) 46 ++ [c, 10] ++ dots true r
    rw [e1, e2, dots_false d c r hc, e3]
theorem okm_ne {c : Nat} (h : okm c = true) : c ≠ 10 ∧ c ≠ 46 := by
  refine ⟨?_, ?_⟩ <;> intro e <;> subst e <;> exact absurd h (by decide)
theorem okm_okc {c : Nat} (h : okm c = true) : okc c = true := by
  unfold okm at h
  unfold okc
  rw [h]
  rfl
theorem dots_word : ∀ {rs : List (Nat × Nat)}, (∀ r ∈ rs, okm r.2 = true) → dots true (wordL rs) = wordL (rs.map bump)
  | [], _ => rfl
  | (d, c) :: rs, h => by
    have h1 := okm_ne (h (d, c) List.mem_cons_self)
    show dots true (rowSigns (d, c) ++ wordL rs) = rowSigns (bump (d, c)) ++ wordL (rs.map bump)
    rw [dots_row d c _ h1.1 h1.2, dots_word fun r hr => h r (List.mem_cons_of_mem _ hr)]
theorem word_ok {rs : List (Nat × Nat)} (h : ∀ r ∈ rs, okm r.2 = true) : ∀ c ∈ wordL rs, okc c = true := by
  intro c hc
  obtain ⟨r, hr, hc⟩ := List.mem_flatMap.mp hc
  unfold rowSigns at hc
  rcases List.mem_append.mp hc with hc | hc
  · rw [List.eq_of_mem_replicate hc]; decide
  · rcases List.mem_cons.mp hc with rfl | hc
    · exact okm_okc (h r hr)
    · rw [List.mem_singleton.mp hc]; decide
theorem word_len {b : Nat} : ∀ {rs : List (Nat × Nat)}, (∀ r ∈ rs, r.1 ≤ b) → (wordL rs).length ≤ (b + 2) * rs.length
  | [], _ => Nat.zero_le _
  | r :: rs, h => by
    have h1 := word_len fun q hq => h q (List.mem_cons_of_mem _ hq)
    have h2 := h r List.mem_cons_self
    show (rowSigns r ++ wordL rs).length ≤ _
    have h3 : (rowSigns r).length = r.1 + 2 := by unfold rowSigns; simp
    rw [List.length_append, h3, List.length_cons, Nat.mul_succ]
    omega
theorem word_pos {rs : List (Nat × Nat)} (h : 0 < rs.length) : 0 < (wordL rs).length := by
  cases rs with
  | nil => simp at h
  | cons r rs =>
    show 0 < (rowSigns r ++ wordL rs).length
    rw [List.length_append]
    unfold rowSigns
    rw [List.length_append, List.length_replicate]
    show 0 < r.1 + 2 + (wordL rs).length
    omega
theorem LawIn.rowsAt {rs wr : List (Nat × Nat)} (h : LawIn rs wr) {k : Nat} (hk : k ≤ 7) : (∀ r ∈ rowsAt k rs, r.1 ≤ 10) ∧ ∀ r ∈ rowsAt k rs, okm r.2 = true := by
  refine ⟨fun r hr => ?_, fun r hr => ?_⟩
  · obtain ⟨q, hq, rfl⟩ := List.mem_map.mp hr
    have := h.rd q hq
    show (if q.1 = 0 then 0 else q.1 + k) ≤ 10
    split <;> omega
  · obtain ⟨q, hq, rfl⟩ := List.mem_map.mp hr
    exact h.rm q hq
theorem LawIn.sent {rs wr : List (Nat × Nat)} (h : LawIn rs wr) {k : Nat} (hk : k ≤ 7) : SentOk (wordS (Mine.rowsAt k rs)) := by
  have h1 := word_len (h.rowsAt hk).1
  have h2 := rowsAt_len k rs
  have h3 : 0 < (wordL (Mine.rowsAt k rs)).length := word_pos (by rw [h2, h.five]; decide)
  rw [h2, h.five] at h1
  exact ⟨fun c hc => word_ok (h.rowsAt hk).2 c (by simpa [wordS] using hc), by simpa [wordS] using h3, by
    show (wordL (Mine.rowsAt k rs)).toArray.size ≤ 1000
    rw [List.size_toArray]; omega⟩
theorem LawIn.next {rs wr : List (Nat × Nat)} (h : LawIn rs wr) {k : Nat} (hk : k ≤ 7) : sentW (wordS (Mine.rowsAt k rs)) = wordS (Mine.rowsAt (k + 1) rs) := by
  unfold sentW wordS
  rw [rowsAt_succ, ← dots_word (h.rowsAt hk).2]
theorem LawIn.len {rs wr : List (Nat × Nat)} (h : LawIn rs wr) {k : Nat} (hk : k ≤ 7) : (wordS (Mine.rowsAt k rs)).length ≤ 100000 := by
  have := (h.sent hk).few
  show (wordS (Mine.rowsAt k rs)).cps.size ≤ _
  omega
/-- the wanted signs -/
structure SgOk (sg : List Nat) : Prop where
  ok : ∀ c ∈ sg, okc c
  few : sg.length ≤ 100
  some : sg ≠ []
theorem LawIn.signs {rs wr : List (Nat × Nat)} (h : LawIn rs wr) : SgOk (wordL wr) := by
  have h1 := word_len h.wd
  have h3 : 0 < (wordL wr).length := word_pos (by rw [h.three]; decide)
  rw [h.three] at h1
  exact ⟨word_ok h.wm, by omega, fun e => by rw [e] at h3; exact absurd h3 (by decide)⟩
noncomputable def starJ (sg : List Nat) : Str := Txt.join (Str.ofString "*") (signs ⟨sg.toArray⟩)
theorem star_list : ∀ (c : Nat) (r : List Nat), 42 :: ((Str.join (Str.ofString "*") ((c :: r).map fun n => ⟨#[n]⟩)).cps.toList ++ [42]) = patL (c :: r)
  | c, [] => rfl
  | c, d :: r => by
    have ih := star_list d r
    show 42 :: ((Str.join (Str.ofString "*") (⟨#[c]⟩ :: ⟨#[d]⟩ :: (r.map fun n => ⟨#[n]⟩))).cps.toList ++ [42]) = 42 :: c :: patL (d :: r)
    rw [join_cons_cons, ← ih]
    show 42 :: (((#[c] ++ (Str.ofString "*").cps) ++ (Str.join (Str.ofString "*") ((d :: r).map fun n => ⟨#[n]⟩)).cps).toList ++ [42]) = _
    rw [Array.toList_append, Array.toList_append]
    rfl
theorem star_pat {sg : List Nat} (h : sg ≠ []) : Str.ofString "*" ++ starJ sg ++ Str.ofString "*" = patOf sg := by
  cases sg with
  | nil => exact absurd rfl h
  | cons c r =>
    refine str_eq ?_
    have e : starJ (c :: r) = Str.join (Str.ofString "*") ((c :: r).map fun n => ⟨#[n]⟩) := by
      unfold starJ Txt.join signs
      rw [StrLaws.glued_eq_join]
    rw [e]
    show (((Str.ofString "*").cps ++ (Str.join (Str.ofString "*") ((c :: r).map fun n => ⟨#[n]⟩)).cps) ++ (Str.ofString "*").cps).toList = patL (c :: r)
    rw [Array.toList_append, Array.toList_append, ← star_list c r]
    rfl
theorem star_len {sg : List Nat} (h : SgOk sg) : (starJ sg).length ≤ 300 := by
  have h1 := congrArg Str.length (star_pat h.some)
  rw [strLen_append, strLen_append] at h1
  have h2 : (patOf sg).length = 2 * sg.length + 1 := by
    show (patL sg).toArray.size = _
    rw [List.size_toArray, patL_len]
  have := h.few
  omega
section
variable {prog : Program} {w : World} {A : Around} {E : Value → Shared → Prop} {s : Shared} {h₀ : Heap} {L : Addr} {m : Str → Option Value} {news : Led} {t u : Tok} {Q : Value → Shared → Prop}
theorem join_star {sg : List Nat} (hh : A.handled = none) (F : Fr h₀ L s.heap m) (N : News h₀ L s.heap news) (h : SgOk sg) (hq : ∀ h' k t', Fr h₀ L h' m → News h₀ L h' news → Q (.str (starJ sg) t') { s with heap := h', toks := k }) :
    wpAny (model prog w) A (call (.builtin "str.join") [.str (Str.ofString "*") t, .str ⟨sg.toArray⟩ u]) Q E s :=
  join_strF hh F N (joinOk_signsN (N := 1048576) (S := 15) (by show sg.toArray.size ≤ _; rw [List.size_toArray]; have := h.few; omega) (by decide) (by decide)) hq
theorem cmp_noteq_same {a b : Int} (e : a = b) (h : Q (.bool false) s) : wpAny (model prog w) A (compareOp .NotEq (.int a t) (.int b u)) Q E s := P.ne_int (by rw [e, bne_self_eq_false]; exact h)
theorem pcs_len {vs : List Value} {wr : List (Nat × Nat)} (h : StrsAre vs ((wordL wr).map fun c => ⟨#[c]⟩)) : vs.length = (wordS wr).length := by
  rw [h.length, List.length_map]
  show _ = (wordL wr).toArray.size
  rw [List.size_toArray]
end
structure WhS where
  k : Nat
  tw : Tok
  tt : Tok
noncomputable abbrev whP (rs : List (Nat × Nat)) (c : WhS) : List (Str × Value) := [(Str.ofString "word", .str (wordS (rowsAt c.k rs)) c.tw), (Str.ofString "times", .int (c.k : Int) c.tt)]
theorem wh_end {h₀ : Heap} {L : Addr} {s : Shared} {rs : List (Nat × Nat)} {m₀ m' : Str → Option Value} {T : Led} {P : WhS → Prop} {h' : Heap} {tk k : Nat} {tw tt u1 u2 : Tok} {news : Led} {x : Str} (F : Fr h₀ L h' m') (N : News h₀ L h' news) (hs : ∀ p ∈ T, p ∈ news)
    (e1 : m' (Str.ofString "word") = some (.str x tw)) (hx : x = wordS (rowsAt (k + 1) rs)) (e2 : m' (Str.ofString "times") = some (.int ((k : Int) + 1) tt)) (hr : ∀ z, z ≠ Str.ofString "word" → z ≠ Str.ofString "times" → m' z = m₀ z) (hk : k < 7) (hp : P ⟨k + 1, tw, tt⟩) :
    KswEnd h₀ L s (fun _ : WhS => T) (whP rs) (fun _ => True) [] m₀ P (fun c => 7 - c.k) ⟨k, u1, u2⟩ { s with heap := h', toks := tk } := by
  subst hx
  refine ksw_end ⟨k + 1, tw, tt⟩ F N hs trivial (List.forall_mem_cons.mpr ⟨e1, List.forall_mem_cons.mpr ⟨e2, List.forall_mem_nil _⟩⟩) (fun z h1 _ => hr z (h1 _ (.head _)) (h1 _ (.tail _ (.head _)))) hp ?_
  show 7 - (k + 1) < 7 - k
  omega
end Mine
end PartLh
section PartPl
set_option maxRecDepth 100000
set_option Elab.async false
namespace Mine
open PySem PySem.Spec PySem.W PyProof.Rows PySem.Calls
structure WEnd (rs wr : List (Nat × Nat)) (k : Nat) : Prop where
  le : k ≤ 7
  before : ∀ j < k, subG (wordL wr) (wordL (rowsAt j rs)) = false
  here : k = 7 ∨ subG (wordL wr) (wordL (rowsAt k rs)) = true
noncomputable def sumD (l : List (Nat × Nat)) : Nat := (l.map (·.1)).sum
/-- the wanted rows are met one behind the other -/
noncomputable def feas : List (Nat × Nat) → List (Nat × Nat) → Prop
  | _, [] => True
  | R, (d, m) :: wr => ∃ i, (∃ e, R[i]? = some (e, m)) ∧ d ≤ sumD (R.take (i + 1)) ∧ feas (R.drop (i + 1)) wr
theorem feas_more : ∀ {wr R : List (Nat × Nat)} (r : Nat × Nat), feas R wr → feas (r :: R) wr
  | [], _, _, _ => trivial
  | (d, m) :: wr, R, r, h => by
    obtain ⟨i, ⟨e, h1⟩, h2, h3⟩ := h
    refine ⟨i + 1, ⟨e, by simpa using h1⟩, ?_, by simpa using h3⟩
    show d ≤ sumD (r :: R.take (i + 1))
    unfold sumD at *
    rw [List.map_cons, List.sum_cons]
    omega
theorem feas_drop {wr R : List (Nat × Nat)} (n : Nat) (h : feas (R.drop n) wr) : feas R wr := by
  induction n generalizing R with
  | zero => simpa using h
  | succ n ih =>
    cases R with
    | nil => simpa using h
    | cons r R => exact feas_more r (ih (by simpa using h))
theorem subG_dots (m : Nat) (W l : List Nat) (hm : m ≠ 46) : ∀ d r : Nat, subG (List.replicate d 46 ++ m :: W) (List.replicate r 46 ++ l) = subG (List.replicate (d - r) 46 ++ m :: W) l
  | d, 0 => by simp
  | 0, r + 1 => by
    have ih := subG_dots m W l hm 0 r
    rw [Nat.zero_sub] at ih ⊢
    rw [← ih]
    show (if 46 = m then _ else subG (m :: W) (List.replicate r 46 ++ l)) = _
    rw [if_neg (fun e => hm e.symm)]
    rfl
  | d + 1, r + 1 => by
    have ih := subG_dots m W l hm d r
    rw [Nat.add_sub_add_right, ← ih]
    show (if 46 = 46 then subG (List.replicate d 46 ++ m :: W) (List.replicate r 46 ++ l) else _) = _
    rw [if_pos rfl]
theorem sub_row {d m r c : Nat} {W l : List Nat} (hm : m ≠ 46) (hm2 : m ≠ 10) (hc : c ≠ 46) :
    subG (List.replicate d 46 ++ m :: 10 :: W) (rowSigns (r, c) ++ l) = if d ≤ r ∧ c = m then subG W l else subG (List.replicate (d - r) 46 ++ m :: 10 :: W) l := by
  have e : rowSigns (r, c) ++ l = List.replicate r 46 ++ (c :: 10 :: l) := by
    unfold rowSigns
    rw [List.append_assoc]
    rfl
  rw [e, subG_dots m (10 :: W) _ hm]
  by_cases hd : d ≤ r
  · have e0 : d - r = 0 := by omega
    rw [e0]
    show (if c = m then (if (10 : Nat) = 10 then subG W l else _) else (if 10 = m then _ else subG (m :: 10 :: W) l)) = _
    by_cases hcm : c = m
    · rw [if_pos hcm, if_pos rfl, if_pos ⟨hd, hcm⟩]
    · rw [if_neg hcm, if_neg (fun q => hm2 q.symm), if_neg (fun q => hcm q.2)]
      rfl
  · obtain ⟨n, hn⟩ : ∃ n, d - r = n + 1 := ⟨d - r - 1, by omega⟩
    rw [hn]
    show (if c = 46 then _ else (if (10 : Nat) = 46 then _ else subG (List.replicate (n + 1) 46 ++ m :: 10 :: W) l)) = _
    rw [if_neg hc, if_neg (by decide), if_neg (fun q => hd q.1)]
theorem sub_feas : ∀ {wr R : List (Nat × Nat)}, (∀ r ∈ R, okm r.2 = true) → (∀ r ∈ wr, okm r.2 = true) → (subG (wordL wr) (wordL R) = true ↔ feas R wr)
  | [], R, _, _ => by
    show subG [] (wordL R) = true ↔ True
    rw [subG_nil]
    simp
  | (d, m) :: wr, R, hR, hw => by
    have hm := okm_ne (hw (d, m) List.mem_cons_self)
    have hw' : ∀ r ∈ wr, okm r.2 = true := fun r hr => hw r (List.mem_cons_of_mem _ hr)
    have e0 : wordL ((d, m) :: wr) = List.replicate d 46 ++ m :: 10 :: wordL wr := by
      show rowSigns (d, m) ++ wordL wr = _
      unfold rowSigns
      rw [List.append_assoc]
      rfl
    rw [e0]
    have go : ∀ (R : List (Nat × Nat)) (d : Nat), (∀ r ∈ R, okm r.2 = true) → (subG (List.replicate d 46 ++ m :: 10 :: wordL wr) (wordL R) = true ↔ feas R ((d, m) :: wr)) := by
      intro R
      induction R with
      | nil =>
        intro d _
        constructor
        · intro h
          exfalso
          have : ∀ l : List Nat, l ≠ [] → subG l [] = false := fun l hl => by cases l with
            | nil => exact absurd rfl hl
            | cons _ _ => rfl
          have h2 : subG (List.replicate d 46 ++ m :: 10 :: wordL wr) (wordL []) = false := this _ (by simp)
          rw [h2] at h
          exact absurd h (by decide)
        · rintro ⟨i, ⟨e, h⟩, _⟩
          simp at h
      | cons q R ih =>
        obtain ⟨r, c⟩ := q
        intro d hR
        have hc := okm_ne (hR (r, c) List.mem_cons_self)
        have hR' : ∀ r ∈ R, okm r.2 = true := fun r hr => hR r (List.mem_cons_of_mem _ hr)
        show subG _ (rowSigns (r, c) ++ wordL R) = true ↔ _
        rw [sub_row hm.2 hm.1 hc.2]
        by_cases hh : d ≤ r ∧ c = m
        · rw [if_pos hh, sub_feas hR' hw']
          constructor
          · intro h
            refine ⟨0, ⟨r, by rw [hh.2]; rfl⟩, ?_, by simpa using h⟩
            show d ≤ sumD [(r, c)]
            unfold sumD
            simp
            exact hh.1
          · rintro ⟨i, _, _, h3⟩
            exact feas_drop i (by simpa using h3)
        · rw [if_neg hh, ih (d - r) hR']
          constructor
          · rintro ⟨i, ⟨e, h1⟩, h2, h3⟩
            refine ⟨i + 1, ⟨e, by simpa using h1⟩, ?_, by simpa using h3⟩
            show d ≤ sumD ((r, c) :: R.take (i + 1))
            unfold sumD at *
            rw [List.map_cons, List.sum_cons]
            omega
          · rintro ⟨i, ⟨e, h1⟩, h2, h3⟩
            cases i with
            | zero =>
              exfalso
              have e1 : (r, c) = (e, m) := by simpa using h1
              have e2 : d ≤ sumD [(r, c)] := h2
              unfold sumD at e2
              simp at e2
              exact hh ⟨e2, (Prod.mk.inj e1).2⟩
            | succ i =>
              refine ⟨i, ⟨e, by simpa using h1⟩, ?_, by simpa using h3⟩
              have e2 : d ≤ sumD ((r, c) :: R.take (i + 1)) := h2
              unfold sumD at *
              rw [List.map_cons, List.sum_cons] at e2
              omega
    exact go R d hR
theorem sum_at (j : Nat) : ∀ l : List (Nat × Nat), ((sumD (rowsAt j l) : Nat) : Int) = (dotsI l).sum + (j : Int) * (riseF (dotsI l) : Int)
  | [] => by simp [sumD, rowsAt, dotsI, riseF]
  | (d, m) :: l => by
    have ih := sum_at j l
    have e1 : sumD (rowsAt j ((d, m) :: l)) = (if d = 0 then 0 else d + j) + sumD (rowsAt j l) := rfl
    have e2 : (dotsI ((d, m) :: l)).sum = (d : Int) + (dotsI l).sum := rfl
    have e3 : riseF (dotsI ((d, m) :: l)) = (if d = 0 then 0 else 1) + riseF (dotsI l) := by
      unfold riseF
      show (((d : Int) :: dotsI l).filter fun n => decide (n ≠ 0)).length = _
      rw [List.filter_cons]
      by_cases h : d = 0
      · subst h; simp
      · have h' : (d : Int) ≠ 0 := by omega
        simp [h, h']
        omega
    rw [e1, e2, e3]
    by_cases h : d = 0
    · subst h
      simp
      omega
    · simp only [if_neg h]
      push_cast
      rw [ih, Int.mul_add]
      omega
theorem need_le {l : List (Nat × Nat)} {d j : Nat} (hj : j ≤ 6) : needF (dotsI l) d ≤ (j : Int) ↔ d ≤ sumD (rowsAt j l) := by
  have hs := sum_at j l
  unfold needF
  by_cases h1 : (d : Int) - (dotsI l).sum ≤ 0
  · rw [if_pos h1]
    have h2 : 0 ≤ (j : Int) * (riseF (dotsI l) : Int) := Int.mul_nonneg (Int.natCast_nonneg _) (Int.natCast_nonneg _)
    constructor
    · intro _; omega
    · intro _; exact Int.natCast_nonneg _
  · rw [if_neg h1]
    by_cases h2 : riseF (dotsI l) = 0
    · rw [if_pos h2]
      rw [h2] at hs
      simp at hs
      constructor
      · intro h; omega
      · intro h; omega
    · rw [if_neg h2]
      have h3 : (0 : Int) < (riseF (dotsI l) : Int) := by omega
      rw [Int.fdiv_eq_ediv_of_nonneg _ (Int.le_of_lt h3)]
      have h4 := Int.le_ediv_iff_mul_le (a := -(j : Int)) (b := -((d : Int) - (dotsI l).sum)) h3
      rw [Int.neg_mul] at h4
      constructor
      · intro h
        have := h4.mp (by omega)
        omega
      · intro h
        have := h4.mpr (by omega)
        omega
theorem fold_le (rs : List (Nat × Nat)) (best : List Int) (d last : Nat) {j : Int} (hj : j < 7) : ∀ n : Nat, (List.range n).foldl (stepMin rs best d last) 7 ≤ j ↔ ∃ f, f < n ∧ best.getD f 0 ≤ j ∧ needF (dotsI (grp rs f last)) d ≤ j
  | 0 => by
    constructor
    · intro h
      have h' : (7 : Int) ≤ j := h
      omega
    · rintro ⟨f, h, _⟩; omega
  | n + 1 => by
    have ih := fold_le rs best d last hj n
    rw [List.range_succ, List.foldl_append]
    show min _ (max (best.getD n 0) (needF (dotsI (grp rs n last)) d)) ≤ j ↔ _
    constructor
    · intro h
      by_cases h1 : (List.range n).foldl (stepMin rs best d last) 7 ≤ j
      · obtain ⟨f, h2, h3, h4⟩ := ih.mp h1
        exact ⟨f, by omega, h3, h4⟩
      · exact ⟨n, by omega, by omega, by omega⟩
    · rintro ⟨f, h2, h3, h4⟩
      by_cases h1 : f = n
      · subst h1; omega
      · have := ih.mpr ⟨f, by omega, h3, h4⟩
        omega
theorem next_at (rs : List (Nat × Nat)) (best : List Int) (d m l : Nat) (hl : l < rs.length) : (nextBest rs best d m).getD (l + 1) 0 = leastAt rs best d m (l + 1) := by
  unfold nextBest
  rw [List.getD_cons_succ, List.getD_eq_getElem?_getD, List.getElem?_map, List.getElem?_range hl]
  rfl
theorem least_le {rs : List (Nat × Nat)} {best : List Int} {d m l j : Nat} (hj : j ≤ 6) (hl : l < rs.length) : leastAt rs best d m (l + 1) ≤ (j : Int) ↔ (∃ e, rs[l]? = some (e, m)) ∧ ∃ f, f ≤ l ∧ best.getD f 0 ≤ (j : Int) ∧ d ≤ sumD (rowsAt j (grp rs f (l + 1))) := by
  unfold leastAt
  rw [Nat.add_sub_cancel, List.getD_eq_getElem?_getD, List.getElem?_eq_getElem hl]
  show (if (rs[l]).2 = m then _ else _) ≤ (j : Int) ↔ _
  by_cases h : (rs[l]).2 = m
  · rw [if_pos h, fold_le rs best d (l + 1) (by omega) (l + 1)]
    constructor
    · rintro ⟨f, h1, h2, h3⟩
      exact ⟨⟨(rs[l]).1, by rw [← h]⟩, f, by omega, h2, (need_le hj).mp h3⟩
    · rintro ⟨_, f, h1, h2, h3⟩
      exact ⟨f, by omega, h2, (need_le hj).mpr h3⟩
  · rw [if_neg h]
    constructor
    · intro h'; omega
    · rintro ⟨⟨e, he⟩, _⟩
      exact absurd (by rw [Option.some.inj he]) h
theorem rowsAt_drop (j n : Nat) (rs : List (Nat × Nat)) : rowsAt j (rs.drop n) = (rowsAt j rs).drop n := by unfold rowsAt; rw [List.map_drop]
theorem rowsAt_take (j n : Nat) (rs : List (Nat × Nat)) : rowsAt j (rs.take n) = (rowsAt j rs).take n := by unfold rowsAt; rw [List.map_take]
theorem dp {rs : List (Nat × Nat)} {j : Nat} (hj : j ≤ 6) : ∀ (wr : List (Nat × Nat)) (best : List Int), best.length = rs.length + 1 →
    ((∃ f, f ≤ rs.length ∧ best.getD f 0 ≤ (j : Int) ∧ feas ((rowsAt j rs).drop f) wr) ↔ ∃ a ∈ wr.foldl (fun b r => nextBest rs b r.1 r.2) best, a ≤ (j : Int))
  | [], best, hb => by
    constructor
    · rintro ⟨f, h1, h2, _⟩
      have hf : f < best.length := by omega
      refine ⟨best[f], List.getElem_mem hf, ?_⟩
      rw [List.getD_eq_getElem?_getD, List.getElem?_eq_getElem hf] at h2
      exact h2
    · rintro ⟨a, ha, h⟩
      obtain ⟨f, hf, e⟩ := List.getElem_of_mem ha
      have hf' : f < best.length := hf
      refine ⟨f, by omega, ?_, trivial⟩
      rw [List.getD_eq_getElem?_getD, List.getElem?_eq_getElem hf']
      have e' : best[f] = a := e
      show best[f] ≤ _
      rw [e']; exact h
  | (d, m) :: wr, best, hb => by
    have ih := dp hj wr (nextBest rs best d m) (next_len rs best d m)
    show _ ↔ ∃ a ∈ wr.foldl (fun b r => nextBest rs b r.1 r.2) (nextBest rs best d m), a ≤ (j : Int)
    rw [← ih]
    constructor
    · rintro ⟨f, h1, h2, i, ⟨e, h3⟩, h4, h5⟩
      rw [List.getElem?_drop] at h3
      have hl : f + i < rs.length := by
        have := (List.getElem?_eq_some_iff.mp h3).1
        rwa [rowsAt_len] at this
      refine ⟨f + i + 1, by omega, ?_, by rwa [List.drop_drop] at h5⟩
      rw [next_at rs best d m _ hl, least_le hj hl]
      refine ⟨?_, f, by omega, h2, ?_⟩
      · unfold rowsAt at h3
        rw [List.getElem?_map] at h3
        obtain ⟨q, hq, e2⟩ := Option.map_eq_some_iff.mp h3
        have e3 : q.2 = m := congrArg Prod.snd e2
        exact ⟨q.1, by rw [hq, ← e3]⟩
      · unfold grp
        rw [rowsAt_take, rowsAt_drop, show f + i + 1 - f = i + 1 by omega]
        exact h4
    · rintro ⟨last, h1, h2, h3⟩
      cases last with
      | zero =>
        have h2' : (7 : Int) ≤ (j : Int) := h2
        omega
      | succ l =>
        have hl : l < rs.length := by omega
        rw [next_at rs best d m _ hl, least_le hj hl] at h2
        obtain ⟨⟨e, he⟩, f, g1, g2, g3⟩ := h2
        refine ⟨f, by omega, g2, l - f, ?_, ?_, ?_⟩
        · rw [List.getElem?_drop, show f + (l - f) = l by omega]
          unfold rowsAt
          rw [List.getElem?_map, he]
          exact ⟨_, rfl⟩
        · unfold grp at g3
          rw [rowsAt_take, rowsAt_drop, show l + 1 - f = l - f + 1 by omega] at g3
          exact g3
        · rw [List.drop_drop, show f + (l - f + 1) = l + 1 by omega]
          exact h3
theorem fold_pos (rs : List (Nat × Nat)) {best : List Int} (d last : Nat) (h : ∀ a ∈ best, 0 ≤ a) : ∀ n : Nat, 0 ≤ (List.range n).foldl (stepMin rs best d last) 7
  | 0 => by show (0 : Int) ≤ 7; decide
  | n + 1 => by
    have ih := fold_pos rs d last h n
    rw [List.range_succ, List.foldl_append]
    show 0 ≤ min _ (max (best.getD n 0) (needF (dotsI (grp rs n last)) d))
    have hg : 0 ≤ best.getD n 0 := by
      rw [List.getD_eq_getElem?_getD]
      cases e : best[n]? with
      | none => exact Int.le_refl _
      | some a => exact h a (List.mem_of_getElem? e)
    omega
theorem next_pos {rs : List (Nat × Nat)} {best : List Int} {d m : Nat} (h : ∀ a ∈ best, 0 ≤ a) : ∀ a ∈ nextBest rs best d m, 0 ≤ a := by
  intro a ha
  unfold nextBest at ha
  rcases List.mem_cons.mp ha with rfl | ha
  · decide
  · obtain ⟨l, _, rfl⟩ := List.mem_map.mp ha
    show 0 ≤ leastAt rs best d m (l + 1)
    unfold leastAt
    split
    · exact fold_pos rs d (l + 1) h (l + 1)
    · decide
theorem all_pos {rs : List (Nat × Nat)} : ∀ (wr : List (Nat × Nat)) (best : List Int), (∀ a ∈ best, 0 ≤ a) → ∀ a ∈ wr.foldl (fun b r => nextBest rs b r.1 r.2) best, 0 ≤ a
  | [], _, h => h
  | (d, m) :: wr, best, h => all_pos wr (nextBest rs best d m) (next_pos h)
theorem seven_in {rs : List (Nat × Nat)} : ∀ (wr : List (Nat × Nat)) (best : List Int), 7 ∈ best → (7 : Int) ∈ wr.foldl (fun b r => nextBest rs b r.1 r.2) best
  | [], _, h => h
  | (d, m) :: wr, best, _ => seven_in wr (nextBest rs best d m) List.mem_cons_self
theorem least_is {rs wr : List (Nat × Nat)} {j : Nat} {M : Int} (hin : LawIn rs wr) (hj : j ≤ 6) (hM : M ∈ bestAll rs wr) (hN : ∀ a ∈ bestAll rs wr, M ≤ a) : M ≤ (j : Int) ↔ subG (wordL wr) (wordL (rowsAt j rs)) = true := by
  rw [sub_feas (hin.rowsAt (by omega)).2 hin.wm]
  have h := dp (rs := rs) hj wr (0 :: List.replicate rs.length 7) (by simp)
  have h1 : (∃ a ∈ bestAll rs wr, a ≤ (j : Int)) ↔ M ≤ (j : Int) := ⟨fun ⟨a, ha, hle⟩ => Int.le_trans (hN a ha) hle, fun hle => ⟨M, hM, hle⟩⟩
  rw [← h1]
  refine Iff.trans (Iff.symm h) ?_
  constructor
  · rintro ⟨f, g1, g2, g3⟩
    cases f with
    | zero => simpa using g3
    | succ f =>
      exfalso
      rw [List.getD_cons_succ, List.getD_eq_getElem?_getD, List.getElem?_replicate, if_pos (by omega)] at g2
      have g2' : (7 : Int) ≤ (j : Int) := g2
      omega
  · intro g
    exact ⟨0, Nat.zero_le _, Int.natCast_nonneg _, by simpa using g⟩
theorem plain_law {rs wr : List (Nat × Nat)} {k : Nat} {M : Int} (hin : LawIn rs wr) (hk : WEnd rs wr k) (hM : M ∈ bestAll rs wr) (hN : ∀ a ∈ bestAll rs wr, M ≤ a) : (k : Int) = M := by
  have h0 : 0 ≤ M := all_pos wr _ (fun a ha => by
    rcases List.mem_cons.mp ha with rfl | ha
    · decide
    · rw [List.eq_of_mem_replicate ha]; decide) M hM
  have h7 : M ≤ 7 := hN 7 (seven_in wr _ (List.mem_cons_of_mem _ (List.mem_replicate.mpr ⟨by rw [hin.five]; decide, rfl⟩)))
  have hk7 := hk.le
  have hlo : (k : Int) ≤ M := by
    cases k with
    | zero => exact h0
    | succ k =>
      have hb := hk.before k (Nat.lt_succ_self _)
      have := least_is (j := k) hin (by omega) hM hN
      rw [hb] at this
      have h2 : ¬ M ≤ (k : Int) := fun h => absurd (this.mp h) (by decide)
      omega
  rcases hk.here with h | h
  · omega
  · by_cases hk6 : k ≤ 6
    · have := (least_is hin hk6 hM hN).mpr h
      omega
    · omega
end Mine
end PartPl
section PartLw
open PySem PySem.Spec PySem.W PyProof.Rows PySem.Calls
set_option Elab.async false
set_option maxRecDepth 100000
namespace Mine
local macro_rules | `(tactic| walk_at "eval ListComp") => `(tactic| (k_here; lcg_look; k_dflt (refine LCg.ListComp_U (F₀ := by k_asm) (by rfl) (by decide) (by rfl) (by decide) (by rfl) ?_); k_dflt lcg_toSrc))
local macro_rules | `(tactic| walk_at "CompSrc") => `(tactic| (k_here; k_dflt (refine LCg.CompSrc.ledger (by rfl) (by k_asm) (by k_asm) (by exact List.mem_cons_self) ?z ?_; (case z => (rw [List.size_toArray, IntsAre.length (by assumption), List.length_take, sizeLine_eq]; omega)); intro g'; refine Held.out ?_)))
local macro_rules | `(tactic| walk_at "subscriptTail BinOp Slice ref ref") => `(tactic| (refine Held.out ?_))
local macro_rules | `(tactic| walk_at "subscriptTail") => `(tactic| ((with_reducible show wpAny _ _ (subscriptTail (Expr.BinOp _ _ _ _) (Expr.Slice _ _ _ _) (Value.ref _) (Value.ref _)) _ _ _); (refine Held.out ?_)))
local macro_rules | `(tactic| walk_at "exec Assign cons ListComp") => `(tactic| (k_here; lcg_look; k_dflt (refine LCg.Assign_ListComp_U (F₀ := by k_asm) (by rfl) (by with_unfolding_all rfl) (by with_unfolding_all rfl) (by decide) (by rfl) (by decide) (by rfl) (by rfl) (by rfl) ?_); k_dflt lcg_toSrc))
local macro_rules | `(tactic| walk_at "CompSrc") => `(tactic| (k_here; k_dflt (refine LCg.CompSrc.ledger (by rfl) (by k_asm) (by k_asm) (by exact List.mem_cons_self) ?z ?_; (case z => assumption); intro g'; refine Held.out ?_)))
local macro_rules | `(tactic| walk_at "subscriptTail Name Slice ref ref") => `(tactic| (k_here; (with_reducible rename Fr _ _ _ _ => F'); (with_reducible rename News _ _ _ _ => N'); k_dflt (first | (refine' upto5 (s := ⟨_, _, _, _, _⟩) F' N' ?e ?b ?z ?_; (case e => (repeat first | exact List.mem_cons_self | apply List.mem_cons_of_mem)); (case b => assumption); (case z => assumption)) | (refine' from5 (s := ⟨_, _, _, _, _⟩) F' N' ?e ?b ?z ?_; (case e => (repeat first | exact List.mem_cons_self | apply List.mem_cons_of_mem)); (case b => assumption); (case z => assumption))); (intro D' h' F' N' l1; (try k_lt l1); (try k_sweep))))
local macro_rules | `(tactic| walk_at "call ref") => `(tactic| (k_here; k_dflt (first | (refine' ct_use (row_ct4 (by assumption)) ?k1 ?k2 ?k3 ?k4 ?k5 ?k6 ?k7 ?k8 ?k9 ?_) | (refine' ct_use (row_ct7 (by assumption)) ?k1 ?k2 ?k3 ?k4 ?k5 ?k6 ?k7 ?k8 ?k9 ?_)); (case k1 => k_asm); (case k2 => k_asm); (case k3 => k_asm); (case k4 => k_asm); (case k5 => k_asm); (case k6 => (first | exact rfl | assumption)); (case k7 => (exact List.forall_mem_nil _)); (case k8 => ktr_room); (case k9 => ktr_units); intro v9 tl9 h9 tk9 F9 N9 ne9 hp9; unfold RowPost at hp9; (obtain ⟨T9, t9, u9, e9, e9'⟩ := hp9; subst e9 e9'); (try dsimp only)))
local macro_rules | `(tactic| walk_at "call ref") => `(tactic| (k_here; k_dflt (refine' ct_use (least_ctI (by assumption) (by assumption) (by assumption)) ?k1 ?k2 ?k3 ?k4 ?k5 ?k6 ?k7 ?k8 ?k9 ?_); (case k1 => k_asm); (case k2 => k_asm); (case k3 => k_asm); (case k4 => k_asm); (case k5 => k_asm); (case k6 => (first | exact rfl | assumption)); (case k7 => ((repeat (refine List.forall_mem_cons.mpr ⟨(by (repeat first | exact List.mem_cons_self | apply List.mem_cons_of_mem)), ?_⟩)); (first | exact List.forall_mem_nil _ | (intro q hq; (repeat first | exact hq | apply List.mem_cons_of_mem))))); (case k8 => ktr_room); (case k9 => ktr_units); intro v9 tl9 h9 tk9 F9 N9 ne9 hp9; unfold LeastPost at hp9; (obtain ⟨e9, M9, t9, e9', hM9, hN9⟩ := hp9; subst e9 e9'); (try simp only [List.nil_append] at N9); clear ne9; (try dsimp only)))
local macro_rules | `(tactic| walk_at "call ref") => `(tactic| (k_here; k_dflt (refine' ct_use (tk_ctB (by assumption) (by assumption) (by assumption)) ?k1 ?k2 ?k3 ?k4 ?k5 ?k6 ?k7 ?k8 ?k9 ?_); (case k1 => k_asm); (case k2 => k_asm); (case k3 => k_asm); (case k4 => k_asm); (case k5 => k_asm); (case k6 => (first | exact rfl | assumption)); (case k7 => ((repeat (refine List.forall_mem_cons.mpr ⟨(by (repeat first | exact List.mem_cons_self | apply List.mem_cons_of_mem)), ?_⟩)); (first | exact List.forall_mem_nil _ | (intro q hq; (repeat first | exact hq | apply List.mem_cons_of_mem))))); (case k8 => ktr_room); (case k9 => ktr_units); intro v9 tl9 h9 tk9 F9 N9 ne9 hp9; (obtain ⟨e9, e9'⟩ := hp9; subst e9 e9'); (try simp only [List.nil_append] at N9); clear ne9; (try dsimp only)))
local macro_rules | `(tactic| walk_at "call ref") => `(tactic| (k_here; k_dflt (refine' ct_use (pcs_ctI (SgOk.ok (by assumption)) (SgOk.few (by assumption))) ?k1 ?k2 ?k3 ?k4 ?k5 ?k6 ?k7 ?k8 ?k9 ?_); (case k1 => k_asm); (case k2 => k_asm); (case k3 => k_asm); (case k4 => k_asm); (case k5 => k_asm); (case k6 => (first | exact rfl | assumption)); (case k7 => ((repeat (refine List.forall_mem_cons.mpr ⟨(by (repeat first | exact List.mem_cons_self | apply List.mem_cons_of_mem)), ?_⟩)); (first | exact List.forall_mem_nil _ | (intro q hq; (repeat first | exact hq | apply List.mem_cons_of_mem))))); (case k8 => ktr_room); (case k9 => ktr_units); intro v9 tl9 h9 tk9 F9 N9 ne9 hp9; (obtain ⟨P9, vs9, n9, e9, e9', hs9⟩ := hp9; subst e9 e9'); (have hpl9 := pcs_len hs9); (have hpk9 : PcsOk P9 vs9 n9 _ := ⟨hs9, SgOk.few (by assumption)⟩); (try simp only [List.cons_append, List.nil_append] at N9); clear ne9; (try dsimp only)))
local macro_rules | `(tactic| walk_at "call ref") => `(tactic| (k_here; k_dflt (first | (refine' ct_use (word_ctI (by assumption)) ?k1 ?k2 ?k3 ?k4 ?k5 ?k6 ?k7 ?k8 ?k9 ?_) | (refine' ct_use (tra_ctI (by assumption) (SgOk.ok (by assumption)) (SgOk.few (by assumption))) ?k1 ?k2 ?k3 ?k4 ?k5 ?k6 ?k7 ?k8 ?k9 ?_) | (refine' ct_use (sent_ctI (by assumption)) ?k1 ?k2 ?k3 ?k4 ?k5 ?k6 ?k7 ?k8 ?k9 ?_)); (case k1 => k_asm); (case k2 => k_asm); (case k3 => k_asm); (case k4 => k_asm); (case k5 => k_asm); (case k6 => (first | exact rfl | assumption)); (case k7 => ((repeat (refine List.forall_mem_cons.mpr ⟨(by (repeat first | exact List.mem_cons_self | apply List.mem_cons_of_mem)), ?_⟩)); (first | exact List.forall_mem_nil _ | (intro q hq; (repeat first | exact hq | apply List.mem_cons_of_mem))))); (case k8 => ktr_room); (case k9 => ktr_units); intro v9 tl9 h9 tk9 F9 N9 ne9 hp9; (obtain ⟨e9, t9, e9'⟩ := hp9; subst e9 e9'); (try simp only [List.nil_append] at N9); clear ne9; (try dsimp only)))
local macro_rules | `(tactic| walk_at "call builtin:str.join") => `(tactic| (k_here; (with_reducible rename Fr _ _ _ _ => F'); (with_reducible rename News _ _ _ _ => N'); k_dflt (refine join_star (by rfl) F' N' (by assumption) ?_); intro _ _ _ _ _))
local macro_rules | `(tactic| walk_at "call builtin:len") => `(tactic| (k_here; (with_reducible show wpAny _ _ (call (Value.builtin _) [Value.ref _]) _ _ _); k_dflt (refine' lst_len ?N ?e ?k ?f ?_; (case N => k_asm); (case e => (repeat first | exact List.mem_cons_self | apply List.mem_cons_of_mem)); (case k => assumption); (case f => assumption); intro _ _)))
local macro_rules | `(tactic| walk_at "compareOp NotEq int int") => `(tactic| (k_here; refine cmp_noteq_same (by rfl) ?_))
local macro_rules | `(tactic| walk_at "exec While") => `(tactic| (k_here; (with_reducible show wpAny _ _ (exec (Stmt.While _ _ _ _) _) _ _ _); refine Held.out ?_))
local macro_rules | `(tactic| walk_at "compareOp Eq int int") => `(tactic| (k_here; refine cmp_int_eq (plain_law (by assumption) (by assumption) (by assumption) (by assumption)) ?_))
local macro_rules | `(tactic| walk_at "KswPost") => `(tactic| (dsimp only [KswPost]; refine Held.out ?_))
set_option maxHeartbeats 0 in
theorem law_holds : PySem.Challenge.rw_kq0062_01.Holds := by
  w_on
  refine holds_law well fun said => ?_
  refine holds_open (q := vw) (loose := lse) (Xt := fun s => xlAt vw [] s && recOk (RowW.records PySem.Challenge.rw_kq0062_01.row.toRowW) s) (XP := XL vw []) (Yf := Hook.obs (kmHook hd.heap_1 adr adr_is [162])) (Ya := Hook.val (kmHook hd.heap_1 adr adr_is [162])) (YP := Hook.says (kmHook hd.heap_1 adr adr_is [162])) (N := 5090) (fun w => left_all w) (Hook.of (kmHook hd.heap_1 adr adr_is [162])) (Hook.keeps (kmHook hd.heap_1 adr adr_is [162])) (fun s e => xl_of s (Bool.and_eq_true_iff.mp e).1) XL.keeps (by rfl) (by rfl) (by rfl) (fun s e => recFacts_of (Bool.and_eq_true_iff.mp e).2) (by rfl) (by first | assumption | decide +kernel) (by decide +kernel) ⟨rfl, rfl, rfl, rfl, rfl, by decide +kernel⟩ ?hw ?hc
  case hw => w_witness2
  case hc =>
  clear said
  k_go0
  (all_goals try k_fold)
  k_steps
  rename IntsAre _ (List.take 8 _) => hI8
  rename Fr _ _ _ _ => lF
  rename News _ _ _ _ => lN
  unfold Held
  refine comp_inv (fun i ys => ∃ ms, IntsAre ys ms ∧ ms.length = i ∧ ∀ k ∈ ms, 0 ≤ k ∧ k < 1000000) ⟨[], .nil, rfl, by simp⟩ (fun ys e9 => ?fin) ?turn
  case turn =>
    clear lF lN
    rintro i4 ys v I oI C oC D m₂ h tk E' hi hys hP hns hx lF lN off ne
    obtain ⟨n, t1, rfl, hn⟩ := int_get hI8 (by simpa using hP)
    k_steps
    rename Fr _ _ _ _ => F'
    rename News _ _ _ _ => N'
    refine comp_same F' N' off (src_here (List.mem_cons_self)) ?_
    obtain ⟨ms, h1, h2, h3⟩ := hys
    exact ⟨rfl, ms ++ [n.fmod 1000000], ints_snocG h1, by rw [List.length_append, h2]; rfl, fun k hk => by
      rcases List.mem_append.mp hk with hk | hk
      · exact h3 k hk
      · rw [List.mem_singleton.mp hk]
        exact ⟨Int.fmod_nonneg_of_pos _ (by decide), Int.fmod_lt_of_pos _ (by decide)⟩⟩
  case fin =>
    clear lF lN
    obtain ⟨ms, hms, hml, hmb⟩ := e9
    rw [List.size_toArray, hI8.length, List.length_take] at hml
    k_steps
    rename Fr _ _ _ _ => lF
    rename News _ _ _ _ => lN
    rename IntsAre _ (_ ++ _) => hW
    unfold Held
    obtain ⟨hw8, cs, hcv, hcl, hco⟩ := cells_of hW hmb
    refine upto8 (s := ⟨_, _, _, _, _⟩) lF lN List.mem_cons_self hw8 (by rw [hW.length, List.length_append]; show ms.length + 8 ≤ 1000; omega) ?_
    intro Dc hc lF2 lN2 hDc
    have lN3 := kst_newsOf (l' := [(Dc, _), (162, tabObj #[])]) lN2 (by intro p hp; simp only [List.mem_cons, List.not_mem_nil, or_false] at hp ⊢; rcases hp with h | h; exact .inl h; exact .inr (.inr (.inr (.inr (.inr h)))))
    clear lF lN lN2
    generalize List.take 8 _ = cv at hcv lN3
    clear hW hw8
    have hcvl : cv.length = 8 := hcv.length.trans hcl
    have hb5 : 5 ≤ cv.length := by omega
    have hcz : cv.length ≤ 1000 := by omega
    have hs5 : (cv.take 5).toArray.size ≤ sizeLine := by rw [List.size_toArray, List.length_take, sizeLine_eq]; omega
    have hd5 : (cv.drop 5).toArray.size ≤ sizeLine := by rw [List.size_toArray, List.length_drop, sizeLine_eq]; omega
    k_steps
    rename Fr _ _ _ _ => lF
    rename News _ _ _ _ => lN
    unfold Held
    refine comp_grow (RowInv 4 (cs.take 5)) .nil (fun ys add e9 => ?fin2) ?turn2
    case turn2 =>
      clear lF lN
      rintro i ys add v I oI C oC D m₂ h tk E' hi hys hP hns hx lF lN off ne
      obtain ⟨c, t1, rfl, hcg⟩ := int_get (hcv.take 5) (by simpa using hP)
      have hck : CellOk c := hco c (List.mem_of_mem_take (List.mem_of_getElem? hcg))
      k_steps
      rename ∀ q ∈ _, _ => ne9
      rename Fr _ _ _ _ => F'
      rename News _ _ _ _ => N'
      with_unfolding_all exact rows_turn F' N' ne9 off (fun l => src_here (List.mem_append_right _ List.mem_cons_self)) hys hcg
    case fin2 =>
      clear lF lN
      unfold LCg.FinA
      intro R h3 tk3 lF lN o1
      replace lN := tidy1 lN
      have hR := inv_all e9 (by rw [List.size_toArray, List.length_take, List.length_take, hcvl, hcl]; exact Nat.le_refl _)
      clear e9 o1
      k_steps
      rename Fr _ _ _ _ => lF
      rename News _ _ _ _ => lN
      unfold Held
      refine comp_grow (RowInv 7 (cs.drop 5)) .nil (fun ws add2 e9 => ?fin3) ?turn3
      case turn3 =>
        clear lF lN
        rintro i ys add v I oI C oC D m₂ h tk E' hi hys hP hns hx lF lN off ne
        obtain ⟨c, t1, rfl, hcg⟩ := int_get (hcv.drop 5) (by simpa using hP)
        have hck : CellOk c := hco c (List.mem_of_mem_drop (List.mem_of_getElem? hcg))
        k_steps
        rename ∀ q ∈ _, _ => ne9
        rename Fr _ _ _ _ => F'
        rename News _ _ _ _ => N'
        with_unfolding_all exact rows_turn F' N' ne9 off (fun l => src_here (List.mem_append_right _ List.mem_cons_self)) hys hcg
      case fin3 =>
        clear lF lN
        unfold LCg.FinA
        intro W h4 tk4 lF lN o1
        replace lN := tidy2 lN
        have hW := inv_all e9 (by rw [List.size_toArray, List.length_drop, List.length_drop, hcvl, hcl]; exact Nat.le_refl _)
        clear e9 o1
        replace hR := hR.mono (T' := add ++ add2) fun p hp => List.mem_append_left _ hp
        replace hW := hW.mono (T' := add ++ add2) fun p hp => List.mem_append_right _ hp
        generalize add ++ add2 = T9 at hR hW lN
        have hin := law_in hcl
        generalize List.map (rowOf 4) (List.take 5 cs) = rs at hR hin
        generalize List.map (rowOf 7) (List.drop 5 cs) = wr at hW hin
        have hRo : RowsOk R T9 ys ys.length rs := ⟨hR, by rw [hin.five]; decide, fun r hr => Nat.le_trans (hin.rd r hr) (by decide)⟩
        have hWo : RowsOk W T9 ws ws.length wr := ⟨hW, by rw [hin.three]; decide, fun r hr => Nat.le_trans (hin.wd r hr) (by decide)⟩
        have hsg := hin.signs
        have hl5 := hin.five
        have hpat := star_pat hsg.some
        have hjl := star_len hsg
        have hwl : (wordS wr).length ≤ 100000 := by show (wordL wr).toArray.size ≤ _; rw [List.size_toArray]; exact Nat.le_trans hsg.few (by decide)
        clear hR hW hb5 hcz hs5 hd5 hco hcv hcvl hcl
        k_steps
        rename Fr _ _ _ _ => lF
        rename News _ _ _ _ => lN
        unfold Held
        with_unfolding_all refine' ksw_while (fun _ : WhS => _) (whP rs) (fun _ => True) [] (fun c => c.k ≤ 7 ∧ ∀ j < c.k, subG (wordL wr) (wordL (rowsAt j rs)) = false) (fun c => 7 - c.k) ⟨0, _, _⟩ lF lN trivial ?kk4 ?kp4 ?turn4
        case kk4 => exact List.forall_mem_cons.mpr ⟨by rw [rowsAt_zero]; with_unfolding_all rfl, List.forall_mem_cons.mpr ⟨by with_unfolding_all rfl, List.forall_mem_nil _⟩⟩
        case kp4 => exact ⟨Nat.zero_le _, fun j hj => absurd hj (Nat.not_lt_zero _)⟩
        case turn4 =>
          clear lF lN
          rintro ⟨k, tw, tt⟩ u h5 tk5 - ⟨hk7, hbe⟩ lF lN
          dsimp only [whP] at hk7 hbe lF lN
          show wpAny _ _ _ _ _ _
          k_fold
          have hwlk := hin.len hk7
          rcases Nat.lt_or_eq_of_le hk7 with hk8 | hk8
          · cases hb : subG (wordL wr) (wordS (rowsAt k rs)).cps.toList with
            | false =>
              have hso := hin.sent hk7
              k_steps
              rename Fr _ _ _ _ => F'
              rename News _ _ _ _ => N'
              unfold Held
              with_unfolding_all refine wh_end F' N' (fun p hp => by first | exact hp | exact List.mem_cons_of_mem _ hp) rfl (hin.next hk7) rfl ?_ hk8 ⟨hk8, fun j hj => ?_⟩
              · intro z e1 e2
                simp only [kstB, e1, e2, if_false, List.contains_nil, Bool.false_eq_true]
              · rcases Nat.lt_or_eq_of_le (Nat.le_of_lt_succ hj) with h | h
                · exact hbe j h
                · rw [h]; simpa [wordS] using hb
            | true =>
              have hwe : WEnd rs wr k := ⟨hk7, hbe, .inr (by simpa [wordS] using hb)⟩
              k_steps
          · have hwe : WEnd rs wr k := ⟨hk7, hbe, .inl hk8⟩
            k_steps
end Mine
end PartLw
theorem PySem.Challenge.cw_kq0062_01_holds : PySem.Challenge.rw_kq0062_01.Holds := by
  exact Mine.law_holds
